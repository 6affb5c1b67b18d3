import JvmDerived
import JvmDerived.Pilot.@@N@@Statement
import JvmDerived.Pilot.@@N@@Code
set_option linter.unusedVariables false
set_option linter.unusedSimpArgs false
namespace Jvm.RoadKit
open Sem ClassFile Op Lib Jvm.Stand Jvm.Free Jvm.LawKit
section New
variable {p : Program} {l : Launch} {e : Env} {R : Room} {s : State} {m : MethodId} {args : Array Value} {below : List Frame} {meth : Method} {c : Code} {T : State} {locs : List Loc} {cells slots : Nat}
theorem retI (X : Stand p l e R s m args below meth c T locs cells slots) (hx : p.tables.exec = Jvm.exec) {pc : Nat} {Ls : Array Slot} {z : Int32} {rest : List Value} (hret : meth.sig.returnType = some .int) (hd : decode c.code pc = .ok (.ireturn, 1)) {fs : List Frame}
    (hl : ∀ (f : JFrame) (acts : List Action), f.method = m → f.locked = none → f.entered = [] → (doReturn e (T.setTop f) acts (some (.int z))).1 = T.setFrames fs) : Steps p.tables e below (T.setTop (mkF m pc Ls (.int z :: rest))) (T.setFrames fs) := by
  have hm' : T.vm.method? m = some meth := X.method'
  have hn : narrow .int (.int z) = .int z := rfl
  show Steps p.tables e below (T.setTop { method := m, pc := pc, locals := Ls, stack := _ :: rest, locked := none }) _
  jvm_step X.here [X.here.top, hx, hd, hm', hret, hn]
  first | (intro acts; rw [hl _ acts rfl rfl rfl]) | rw [hl _ _ rfl rfl rfl]
  exact Steps.refl _
theorem retL (X : Stand p l e R s m args below meth c T locs cells slots) (hx : p.tables.exec = Jvm.exec) {pc : Nat} {Ls : Array Slot} {z : Int64} {rest : List Value} (hret : meth.sig.returnType = some .long) (hd : decode c.code pc = .ok (.lreturn, 1)) {fs : List Frame}
    (hl : ∀ (f : JFrame) (acts : List Action), f.method = m → f.locked = none → f.entered = [] → (doReturn e (T.setTop f) acts (some (.long z))).1 = T.setFrames fs) : Steps p.tables e below (T.setTop (mkF m pc Ls (.long z :: rest))) (T.setFrames fs) := by
  have hm' : T.vm.method? m = some meth := X.method'
  have hn : narrow .long (.long z) = .long z := rfl
  show Steps p.tables e below (T.setTop { method := m, pc := pc, locals := Ls, stack := _ :: rest, locked := none }) _
  jvm_step X.here [X.here.top, hx, hd, hm', hret, hn]
  first | (intro acts; rw [hl _ acts rfl rfl rfl]) | rw [hl _ _ rfl rfl rfl]
  exact Steps.refl _
theorem retA (X : Stand p l e R s m args below meth c T locs cells slots) (hx : p.tables.exec = Jvm.exec) {pc : Nat} {Ls : Array Slot} {z : Value} {ty : FieldType} {rest : List Value} (hv : z.isRef = true) (hty : ty.isReference = true) (hret : meth.sig.returnType = some ty) (hd : decode c.code pc = .ok (.areturn, 1)) {fs : List Frame}
    (hl : ∀ (f : JFrame) (acts : List Action), f.method = m → f.locked = none → f.entered = [] → (doReturn e (T.setTop f) acts (some z)).1 = T.setFrames fs) : Steps p.tables e below (T.setTop (mkF m pc Ls (z :: rest))) (T.setFrames fs) := by
  have hm' : T.vm.method? m = some meth := X.method'
  show Steps p.tables e below (T.setTop { method := m, pc := pc, locals := Ls, stack := _ :: rest, locked := none }) _
  jvm_step X.here [X.here.top, hx, hd, hm', hret, hv, hty]
  first | (intro acts; rw [hl _ acts rfl rfl rfl]) | rw [hl _ _ rfl rfl rfl]
  exact Steps.refl _
end New
theorem own_fw {tb : Tables} {e : Env} {below : List Frame} {A B : State} {P : State → Outcome → Prop} (h : ∀ t, Steps tb e below A t → Steps tb e below B t) (k : ∃ t o, Steps tb e below A t ∧ P t o) : ∃ t o, Steps tb e below B t ∧ P t o := by
  obtain ⟨t, o, h1, h2⟩ := k
  exact ⟨t, o, h t h1, h2⟩
theorem own_hide {p : Program} {l : Launch} {e : Env} {R : Room} {s : State} {m : MethodId} {args : Array Value} {below : List Frame} {meth : Method} {c : Code} {T : State} {locs : List Loc} {cells slots k : Nat} (X : Stand p l e R s m args below meth c T locs cells slots) (N : Fr k locs) : ∃ L, Stand p l e R s m args below meth c T L cells slots ∧ Fr k L := ⟨_, X, N⟩
theorem own_ret {r : Option FieldType} {t : FieldType} {v : Option Value} (h : r = some t) : r = none → v = none := fun q => by rw [h] at q; cases q
def own_irem (x y : Int32) : Int32 := x - (x / y) * y
def own_lrem (x y : Int64) : Int64 := x - (x / y) * y
end Jvm.RoadKit
namespace Jvm.Pilot.@@N@@
open Jvm Jvm.ClassFile Sem Op Lib Jvm.Free Jvm.Stand Jvm.LawKit Jvm.RoadKit Bundle Jvm.Pilot.@@N@@.Jvm.D
set_option maxRecDepth 65536
set_option maxHeartbeats 40000000
theorem ox_aconstNull {tb : Tables} [Ours tb] {e : Env} {below : List Frame} {T target : State} {m : MethodId} {c : Code} {pc : Nat} {Ls : Array Slot} {S : List Value} (h : At T m c below) (hx : tb.exec = Jvm.exec) (hd : decode c.code pc = .ok (.aconst_null, 1)) (hr : Steps tb e below (T.setTop (mkF m (pc + 1) (Ls) (.null :: S))) target) : Steps tb e below (T.setTop (mkF m pc Ls S)) target := XS.aconstNull (g := mkF m pc Ls S) h hx rfl hd hr
theorem ox_aload {tb : Tables} [Ours tb] {e : Env} {below : List Frame} {T target : State} {m : MethodId} {c : Code} {pc : Nat} {Ls : Array Slot} {S : List Value} (h : At T m c below) (hx : tb.exec = Jvm.exec) {k : Nat} {v : Value} (hd : decode c.code pc = .ok (.aload k, 2)) (hl : Ls[k]? = some (.val v)) (hv : v.isRef = true) (hr : Steps tb e below (T.setTop (mkF m (pc + 2) (Ls) (v :: S))) target) : Steps tb e below (T.setTop (mkF m pc Ls S)) target := XS.aload (g := mkF m pc Ls S) h hx rfl hd hl hv hr
theorem ox_aloadN {tb : Tables} [Ours tb] {e : Env} {below : List Frame} {T target : State} {m : MethodId} {c : Code} {pc : Nat} {Ls : Array Slot} {S : List Value} (h : At T m c below) (hx : tb.exec = Jvm.exec) {k : Fin 4} {v : Value} (hd : decode c.code pc = .ok (.aload_n k, 1)) (hl : Ls[k.val]? = some (.val v)) (hv : v.isRef = true) (hr : Steps tb e below (T.setTop (mkF m (pc + 1) (Ls) (v :: S))) target) : Steps tb e below (T.setTop (mkF m pc Ls S)) target := XS.aloadN (g := mkF m pc Ls S) h hx rfl hd hl hv hr
theorem ox_astore {tb : Tables} [Ours tb] {e : Env} {below : List Frame} {T target : State} {m : MethodId} {c : Code} {pc : Nat} {Ls : Array Slot} {S : List Value} (h : At T m c below) (hx : tb.exec = Jvm.exec) {k : Nat} {x : Value} {rest : List Value} {l' : Array Slot} (hd : decode c.code pc = .ok (.astore k, 2)) (hs : S = x :: rest) (hv : x.isRef = true) (hl : storeLocals Ls k x = some l') (hr : Steps tb e below (T.setTop (mkF m (pc + 2) (l') (rest))) target) : Steps tb e below (T.setTop (mkF m pc Ls S)) target := XS.astore (g := mkF m pc Ls S) h hx rfl hd hs hv hl hr
theorem ox_astoreN {tb : Tables} [Ours tb] {e : Env} {below : List Frame} {T target : State} {m : MethodId} {c : Code} {pc : Nat} {Ls : Array Slot} {S : List Value} (h : At T m c below) (hx : tb.exec = Jvm.exec) {k : Fin 4} {x : Value} {rest : List Value} {l' : Array Slot} (hd : decode c.code pc = .ok (.astore_n k, 1)) (hs : S = x :: rest) (hv : x.isRef = true) (hl : storeLocals Ls k.val x = some l') (hr : Steps tb e below (T.setTop (mkF m (pc + 1) (l') (rest))) target) : Steps tb e below (T.setTop (mkF m pc Ls S)) target := XS.astoreN (g := mkF m pc Ls S) h hx rfl hd hs hv hl hr
theorem ox_bipush {tb : Tables} [Ours tb] {e : Env} {below : List Frame} {T target : State} {m : MethodId} {c : Code} {pc : Nat} {Ls : Array Slot} {S : List Value} (h : At T m c below) (hx : tb.exec = Jvm.exec) {i : Int} (hd : decode c.code pc = .ok (.bipush i, 2)) (hr : Steps tb e below (T.setTop (mkF m (pc + 2) (Ls) (.int (Int8.ofInt i).toInt32 :: S))) target) : Steps tb e below (T.setTop (mkF m pc Ls S)) target := XS.bipush (g := mkF m pc Ls S) h hx rfl hd hr
theorem ox_dup {tb : Tables} [Ours tb] {e : Env} {below : List Frame} {T target : State} {m : MethodId} {c : Code} {pc : Nat} {Ls : Array Slot} {S : List Value} (h : At T m c below) (hx : tb.exec = Jvm.exec) {x : Value} {rest : List Value} (hd : decode c.code pc = .ok (.dup, 1)) (hs : S = x :: rest) (hc : x.category = 1) (hr : Steps tb e below (T.setTop (mkF m (pc + 1) (Ls) (x :: x :: rest))) target) : Steps tb e below (T.setTop (mkF m pc Ls S)) target := XS.dup (g := mkF m pc Ls S) h hx rfl hd hs hc hr
theorem ox_goto {tb : Tables} [Ours tb] {e : Env} {below : List Frame} {T target : State} {m : MethodId} {c : Code} {pc : Nat} {Ls : Array Slot} {S : List Value} (h : At T m c below) (hx : tb.exec = Jvm.exec) {o : Int} {pc0 pc' : Nat} (hpc : pc = pc0) (hd : decode c.code pc = .ok (.goto o, 3)) (ho : 0 ≤ (pc0 : Int) + o) (hp : ((pc0 : Int) + o).toNat = pc') (hr : Steps tb e below (T.setTop (mkF m (pc') (Ls) (S))) target) : Steps tb e below (T.setTop (mkF m pc Ls S)) target := XS.goto (g := mkF m pc Ls S) h hx rfl hpc hd ho hp hr
theorem ox_i2b {tb : Tables} [Ours tb] {e : Env} {below : List Frame} {T target : State} {m : MethodId} {c : Code} {pc : Nat} {Ls : Array Slot} {S : List Value} (h : At T m c below) (hx : tb.exec = Jvm.exec) {v : Int32} {rest : List Value} (hd : decode c.code pc = .ok (.i2b, 1)) (hs : S = .int v :: rest) (hr : Steps tb e below (T.setTop (mkF m (pc + 1) (Ls) (.int (v.toInt8.toInt32) :: rest))) target) : Steps tb e below (T.setTop (mkF m pc Ls S)) target := XS.i2b (g := mkF m pc Ls S) h hx rfl hd hs hr
theorem ox_i2c {tb : Tables} [Ours tb] {e : Env} {below : List Frame} {T target : State} {m : MethodId} {c : Code} {pc : Nat} {Ls : Array Slot} {S : List Value} (h : At T m c below) (hx : tb.exec = Jvm.exec) {v : Int32} {rest : List Value} (hd : decode c.code pc = .ok (.i2c, 1)) (hs : S = .int v :: rest) (hr : Steps tb e below (T.setTop (mkF m (pc + 1) (Ls) (.int (v.toUInt32.toUInt16.toUInt32.toInt32) :: rest))) target) : Steps tb e below (T.setTop (mkF m pc Ls S)) target := XS.i2c (g := mkF m pc Ls S) h hx rfl hd hs hr
theorem ox_iadd {tb : Tables} [Ours tb] {e : Env} {below : List Frame} {T target : State} {m : MethodId} {c : Code} {pc : Nat} {Ls : Array Slot} {S : List Value} (h : At T m c below) (hx : tb.exec = Jvm.exec) {x y : Int32} {rest : List Value} (hd : decode c.code pc = .ok (.iadd, 1)) (hs : S = .int y :: .int x :: rest) (hr : Steps tb e below (T.setTop (mkF m (pc + 1) (Ls) (.int (x + y) :: rest))) target) : Steps tb e below (T.setTop (mkF m pc Ls S)) target := XS.iadd (g := mkF m pc Ls S) h hx rfl hd hs hr
theorem ox_iand {tb : Tables} [Ours tb] {e : Env} {below : List Frame} {T target : State} {m : MethodId} {c : Code} {pc : Nat} {Ls : Array Slot} {S : List Value} (h : At T m c below) (hx : tb.exec = Jvm.exec) {x y : Int32} {rest : List Value} (hd : decode c.code pc = .ok (.iand, 1)) (hs : S = .int y :: .int x :: rest) (hr : Steps tb e below (T.setTop (mkF m (pc + 1) (Ls) (.int (x &&& y) :: rest))) target) : Steps tb e below (T.setTop (mkF m pc Ls S)) target := XS.iand (g := mkF m pc Ls S) h hx rfl hd hs hr
theorem ox_icmpNo {tb : Tables} [Ours tb] {e : Env} {below : List Frame} {T target : State} {m : MethodId} {c : Code} {pc : Nat} {Ls : Array Slot} {S : List Value} (h : At T m c below) (hx : tb.exec = Jvm.exec) {cd : ClassFile.Cond} {o : Int} {x y : Int32} {rest : List Value} (hd : decode c.code pc = .ok (.if_icmp cd o, 3)) (hs : S = .int y :: .int x :: rest) (hc : if_icmp.holds cd x y = false) (hr : Steps tb e below (T.setTop (mkF m (pc + 3) (Ls) (rest))) target) : Steps tb e below (T.setTop (mkF m pc Ls S)) target := XS.icmpNo (g := mkF m pc Ls S) h hx rfl hd hs hc hr
theorem ox_icmpYes {tb : Tables} [Ours tb] {e : Env} {below : List Frame} {T target : State} {m : MethodId} {c : Code} {pc : Nat} {Ls : Array Slot} {S : List Value} (h : At T m c below) (hx : tb.exec = Jvm.exec) {cd : ClassFile.Cond} {x y : Int32} {rest : List Value} {o : Int} {pc0 pc' : Nat} (hpc : pc = pc0) (hd : decode c.code pc = .ok (.if_icmp cd o, 3)) (hs : S = .int y :: .int x :: rest) (hc : if_icmp.holds cd x y = true) (ho : 0 ≤ (pc0 : Int) + o) (hp : ((pc0 : Int) + o).toNat = pc') (hr : Steps tb e below (T.setTop (mkF m (pc') (Ls) (rest))) target) : Steps tb e below (T.setTop (mkF m pc Ls S)) target := XS.icmpYes (g := mkF m pc Ls S) h hx rfl hpc hd hs hc ho hp hr
theorem ox_iconst {tb : Tables} [Ours tb] {e : Env} {below : List Frame} {T target : State} {m : MethodId} {c : Code} {pc : Nat} {Ls : Array Slot} {S : List Value} (h : At T m c below) (hx : tb.exec = Jvm.exec) {i : Int} (hd : decode c.code pc = .ok (.iconst i, 1)) (hr : Steps tb e below (T.setTop (mkF m (pc + 1) (Ls) (.int (Int32.ofInt i) :: S))) target) : Steps tb e below (T.setTop (mkF m pc Ls S)) target := XS.iconst (g := mkF m pc Ls S) h hx rfl hd hr
theorem ox_idiv {tb : Tables} [Ours tb] {e : Env} {below : List Frame} {T target : State} {m : MethodId} {c : Code} {pc : Nat} {Ls : Array Slot} {S : List Value} (h : At T m c below) (hx : tb.exec = Jvm.exec) {x y : Int32} {rest : List Value} (hd : decode c.code pc = .ok (.idiv, 1)) (hs : S = .int y :: .int x :: rest) (hy : y ≠ 0) (hr : Steps tb e below (T.setTop (mkF m (pc + 1) (Ls) (.int (x / y) :: rest))) target) : Steps tb e below (T.setTop (mkF m pc Ls S)) target := XS.idiv (g := mkF m pc Ls S) h hx rfl hd hs hy hr
theorem ox_ifNo {tb : Tables} [Ours tb] {e : Env} {below : List Frame} {T target : State} {m : MethodId} {c : Code} {pc : Nat} {Ls : Array Slot} {S : List Value} (h : At T m c below) (hx : tb.exec = Jvm.exec) {cd : ClassFile.Cond} {o : Int} {x : Int32} {rest : List Value} (hd : decode c.code pc = .ok (.ifCond cd o, 3)) (hs : S = .int x :: rest) (hc : ifCond.holds cd x = false) (hr : Steps tb e below (T.setTop (mkF m (pc + 3) (Ls) (rest))) target) : Steps tb e below (T.setTop (mkF m pc Ls S)) target := XS.ifNo (g := mkF m pc Ls S) h hx rfl hd hs hc hr
theorem ox_ifYes {tb : Tables} [Ours tb] {e : Env} {below : List Frame} {T target : State} {m : MethodId} {c : Code} {pc : Nat} {Ls : Array Slot} {S : List Value} (h : At T m c below) (hx : tb.exec = Jvm.exec) {cd : ClassFile.Cond} {x : Int32} {rest : List Value} {o : Int} {pc0 pc' : Nat} (hpc : pc = pc0) (hd : decode c.code pc = .ok (.ifCond cd o, 3)) (hs : S = .int x :: rest) (hc : ifCond.holds cd x = true) (ho : 0 ≤ (pc0 : Int) + o) (hp : ((pc0 : Int) + o).toNat = pc') (hr : Steps tb e below (T.setTop (mkF m (pc') (Ls) (rest))) target) : Steps tb e below (T.setTop (mkF m pc Ls S)) target := XS.ifYes (g := mkF m pc Ls S) h hx rfl hpc hd hs hc ho hp hr
theorem ox_iinc {tb : Tables} [Ours tb] {e : Env} {below : List Frame} {T target : State} {m : MethodId} {c : Code} {pc : Nat} {Ls : Array Slot} {S : List Value} (h : At T m c below) (hx : tb.exec = Jvm.exec) {k : Nat} {cst : Int} {x : Int32} {l' : Array Slot} (hd : decode c.code pc = .ok (.iinc k cst, 3)) (hl : Ls[k]? = some (.val (.int x))) (hl' : storeLocals Ls k (.int (x + Int32.ofInt cst)) = some l') (hr : Steps tb e below (T.setTop (mkF m (pc + 3) (l') (S))) target) : Steps tb e below (T.setTop (mkF m pc Ls S)) target := XS.iinc (g := mkF m pc Ls S) h hx rfl hd hl hl' hr
theorem ox_iload {tb : Tables} [Ours tb] {e : Env} {below : List Frame} {T target : State} {m : MethodId} {c : Code} {pc : Nat} {Ls : Array Slot} {S : List Value} (h : At T m c below) (hx : tb.exec = Jvm.exec) {k : Nat} {v : Int32} (hd : decode c.code pc = .ok (.iload k, 2)) (hl : Ls[k]? = some (.val (.int v))) (hr : Steps tb e below (T.setTop (mkF m (pc + 2) (Ls) (.int v :: S))) target) : Steps tb e below (T.setTop (mkF m pc Ls S)) target := XS.iload (g := mkF m pc Ls S) h hx rfl hd hl hr
theorem ox_iloadN {tb : Tables} [Ours tb] {e : Env} {below : List Frame} {T target : State} {m : MethodId} {c : Code} {pc : Nat} {Ls : Array Slot} {S : List Value} (h : At T m c below) (hx : tb.exec = Jvm.exec) {k : Fin 4} {v : Int32} (hd : decode c.code pc = .ok (.iload_n k, 1)) (hl : Ls[k.val]? = some (.val (.int v))) (hr : Steps tb e below (T.setTop (mkF m (pc + 1) (Ls) (.int v :: S))) target) : Steps tb e below (T.setTop (mkF m pc Ls S)) target := XS.iloadN (g := mkF m pc Ls S) h hx rfl hd hl hr
theorem ox_imul {tb : Tables} [Ours tb] {e : Env} {below : List Frame} {T target : State} {m : MethodId} {c : Code} {pc : Nat} {Ls : Array Slot} {S : List Value} (h : At T m c below) (hx : tb.exec = Jvm.exec) {x y : Int32} {rest : List Value} (hd : decode c.code pc = .ok (.imul, 1)) (hs : S = .int y :: .int x :: rest) (hr : Steps tb e below (T.setTop (mkF m (pc + 1) (Ls) (.int (x * y) :: rest))) target) : Steps tb e below (T.setTop (mkF m pc Ls S)) target := XS.imul (g := mkF m pc Ls S) h hx rfl hd hs hr
theorem ox_ineg {tb : Tables} [Ours tb] {e : Env} {below : List Frame} {T target : State} {m : MethodId} {c : Code} {pc : Nat} {Ls : Array Slot} {S : List Value} (h : At T m c below) (hx : tb.exec = Jvm.exec) {x : Int32} {rest : List Value} (hd : decode c.code pc = .ok (.ineg, 1)) (hs : S = .int x :: rest) (hr : Steps tb e below (T.setTop (mkF m (pc + 1) (Ls) (.int (-x) :: rest))) target) : Steps tb e below (T.setTop (mkF m pc Ls S)) target := XS.ineg (g := mkF m pc Ls S) h hx rfl hd hs hr
theorem ox_irem {tb : Tables} [Ours tb] {e : Env} {below : List Frame} {T target : State} {m : MethodId} {c : Code} {pc : Nat} {Ls : Array Slot} {S : List Value} (h : At T m c below) (hx : tb.exec = Jvm.exec) {x y : Int32} {rest : List Value} (hd : decode c.code pc = .ok (.irem, 1)) (hs : S = .int y :: .int x :: rest) (hy : y ≠ 0) (hr : Steps tb e below (T.setTop (mkF m (pc + 1) (Ls) (.int (x - (x / y) * y) :: rest))) target) : Steps tb e below (T.setTop (mkF m pc Ls S)) target := XS.irem (g := mkF m pc Ls S) h hx rfl hd hs hy hr
theorem ox_ishr {tb : Tables} [Ours tb] {e : Env} {below : List Frame} {T target : State} {m : MethodId} {c : Code} {pc : Nat} {Ls : Array Slot} {S : List Value} (h : At T m c below) (hx : tb.exec = Jvm.exec) {x : Int32} {y : Int32} {rest : List Value} (hd : decode c.code pc = .ok (.ishr, 1)) (hs : S = .int y :: .int x :: rest) (hr : Steps tb e below (T.setTop (mkF m (pc + 1) (Ls) (.int (x >>> (y &&& 31)) :: rest))) target) : Steps tb e below (T.setTop (mkF m pc Ls S)) target := XS.ishr (g := mkF m pc Ls S) h hx rfl hd hs hr
theorem ox_istore {tb : Tables} [Ours tb] {e : Env} {below : List Frame} {T target : State} {m : MethodId} {c : Code} {pc : Nat} {Ls : Array Slot} {S : List Value} (h : At T m c below) (hx : tb.exec = Jvm.exec) {k : Nat} {x : Int32} {rest : List Value} {l' : Array Slot} (hd : decode c.code pc = .ok (.istore k, 2)) (hs : S = .int x :: rest) (hl : storeLocals Ls k (.int x) = some l') (hr : Steps tb e below (T.setTop (mkF m (pc + 2) (l') (rest))) target) : Steps tb e below (T.setTop (mkF m pc Ls S)) target := XS.istore (g := mkF m pc Ls S) h hx rfl hd hs hl hr
theorem ox_istoreN {tb : Tables} [Ours tb] {e : Env} {below : List Frame} {T target : State} {m : MethodId} {c : Code} {pc : Nat} {Ls : Array Slot} {S : List Value} (h : At T m c below) (hx : tb.exec = Jvm.exec) {k : Fin 4} {x : Int32} {rest : List Value} {l' : Array Slot} (hd : decode c.code pc = .ok (.istore_n k, 1)) (hs : S = .int x :: rest) (hl : storeLocals Ls k.val (.int x) = some l') (hr : Steps tb e below (T.setTop (mkF m (pc + 1) (l') (rest))) target) : Steps tb e below (T.setTop (mkF m pc Ls S)) target := XS.istoreN (g := mkF m pc Ls S) h hx rfl hd hs hl hr
theorem ox_isub {tb : Tables} [Ours tb] {e : Env} {below : List Frame} {T target : State} {m : MethodId} {c : Code} {pc : Nat} {Ls : Array Slot} {S : List Value} (h : At T m c below) (hx : tb.exec = Jvm.exec) {x y : Int32} {rest : List Value} (hd : decode c.code pc = .ok (.isub, 1)) (hs : S = .int y :: .int x :: rest) (hr : Steps tb e below (T.setTop (mkF m (pc + 1) (Ls) (.int (x - y) :: rest))) target) : Steps tb e below (T.setTop (mkF m pc Ls S)) target := XS.isub (g := mkF m pc Ls S) h hx rfl hd hs hr
theorem ox_iushr {tb : Tables} [Ours tb] {e : Env} {below : List Frame} {T target : State} {m : MethodId} {c : Code} {pc : Nat} {Ls : Array Slot} {S : List Value} (h : At T m c below) (hx : tb.exec = Jvm.exec) {x : Int32} {y : Int32} {rest : List Value} (hd : decode c.code pc = .ok (.iushr, 1)) (hs : S = .int y :: .int x :: rest) (hr : Steps tb e below (T.setTop (mkF m (pc + 1) (Ls) (.int ((x.toUInt32 >>> (y &&& 31).toUInt32).toInt32) :: rest))) target) : Steps tb e below (T.setTop (mkF m pc Ls S)) target := XS.iushr (g := mkF m pc Ls S) h hx rfl hd hs hr
theorem ox_pop {tb : Tables} [Ours tb] {e : Env} {below : List Frame} {T target : State} {m : MethodId} {c : Code} {pc : Nat} {Ls : Array Slot} {S : List Value} (h : At T m c below) (hx : tb.exec = Jvm.exec) {x : Value} {rest : List Value} (hd : decode c.code pc = .ok (.pop, 1)) (hs : S = x :: rest) (hc : x.category = 1) (hr : Steps tb e below (T.setTop (mkF m (pc + 1) (Ls) (rest))) target) : Steps tb e below (T.setTop (mkF m pc Ls S)) target := XS.pop (g := mkF m pc Ls S) h hx rfl hd hs hc hr
theorem ox_sipush {tb : Tables} [Ours tb] {e : Env} {below : List Frame} {T target : State} {m : MethodId} {c : Code} {pc : Nat} {Ls : Array Slot} {S : List Value} (h : At T m c below) (hx : tb.exec = Jvm.exec) {i : Int} (hd : decode c.code pc = .ok (.sipush i, 3)) (hr : Steps tb e below (T.setTop (mkF m (pc + 3) (Ls) (.int (Int16.ofInt i).toInt32 :: S))) target) : Steps tb e below (T.setTop (mkF m pc Ls S)) target := XS.sipush (g := mkF m pc Ls S) h hx rfl hd hr
theorem own_w {Z : State} {a0 : Array Value} (hw : ∀ d ∈ tables_1, d.before a0 Z = true) (i : Nat) {d : Jvm.Cond} (h : tables_1[i]? = some d) : d.before a0 Z = true := hw _ (List.mem_of_getElem? h)
theorem own_mr {x w : Nat} (h : 2 * 0 + x = w) : 2 * 0 + x ≤ w := Nat.le_of_eq h
abbrev cB0 : ByteArray := prog_49_method_12_code
abbrev cB1 : ByteArray := prog_36_method_15_code
abbrev cB2 : ByteArray := jdk_65_method_59_code
abbrev cB3 : ByteArray := prog_49_method_13_code
abbrev cB4 : ByteArray := jdk_52_method_21_code
abbrev cB5 : ByteArray := jdk_65_method_133_code
abbrev cB6 : ByteArray := jdk_42_method_92_code
abbrev cB7 : ByteArray := prog_49_method_11_code
abbrev cB8 : ByteArray := prog_49_method_10_code
abbrev cB9 : ByteArray := prog_36_method_22_code
abbrev cB10 : ByteArray := jdk_42_method_149_code
abbrev cB11 : ByteArray := jdk_52_method_16_code
abbrev cB12 : ByteArray := prog_36_method_8_code
abbrev cB13 : ByteArray := prog_36_method_1_code
abbrev cB14 : ByteArray := jdk_43_method_47_code
abbrev cB15 : ByteArray := jdk_43_method_2_code
abbrev cB16 : ByteArray := prog_36_method_26_code
abbrev cB17 : ByteArray := prog_36_method_25_code
abbrev cB18 : ByteArray := jdk_65_method_58_code
abbrev cB19 : ByteArray := prog_49_method_1_code
abbrev cB20 : ByteArray := jdk_41_method_12_code
abbrev cB21 : ByteArray := prog_36_method_28_code
abbrev cB22 : ByteArray := jdk_42_method_151_code
abbrev cB23 : ByteArray := jdk_65_method_30_code
abbrev mN0 : MethodName := ⟨"com/example/copperline/copperline/Lexer", "charAt", "(I)C"⟩
abbrev mN1 : MethodName := ⟨"com/example/copperline/copperline/Program", "placeOf", "(I)I"⟩
abbrev mN2 : MethodName := ⟨"java/lang/StringLatin1", "charAt", "([BI)C"⟩
abbrev mN3 : MethodName := ⟨"java/lang/String", "charAt", "(I)C"⟩
abbrev mN4 : MethodName := ⟨"com/example/copperline/copperline/Lexer", "skipBlanks", "()V"⟩
abbrev mN5 : MethodName := ⟨"com/example/copperline/copperline/Program", "store", "(ILjava/lang/String;)V"⟩
abbrev mN6 : MethodName := ⟨"com/example/copperline/copperline/Program", "enter", "(Ljava/lang/String;)Z"⟩
abbrev mN7 : MethodName := ⟨"java/util/Arrays", "binarySearch0", "([IIII)I"⟩
abbrev mN8 : MethodName := ⟨"java/util/Arrays", "binarySearch", "([IIII)I"⟩
abbrev mN9 : MethodName := ⟨"com/example/copperline/copperline/Lexer", "digitsFrom", "(I)I"⟩
abbrev mN10 : MethodName := ⟨"com/example/copperline/copperline/ProgramReplaceWithPinLaw", "same", "(Lcom/example/copperline/copperline/Program;Lcom/example/copperline/copperline/Program;II)Z"⟩
abbrev mN11 : MethodName := ⟨"com/example/copperline/copperline/ProgramReplaceWithPinLaw", "kept", "(Lcom/example/copperline/copperline/Program;IIILjava/lang/String;)Z"⟩
abbrev mN12 : MethodName := ⟨"java/lang/StringUTF16", "coderFromArrayLen", "([BI)B"⟩
abbrev mN13 : MethodName := ⟨"java/lang/StringUTF16", "compress", "([CI[BII)I"⟩
abbrev mN14 : MethodName := ⟨"java/lang/StringUTF16", "compress", "([CII)[B"⟩
abbrev mN15 : MethodName := ⟨"java/lang/String", "<init>", "([CIILjava/lang/Void;)V"⟩
abbrev mN16 : MethodName := ⟨"java/lang/String", "<init>", "([C)V"⟩
abbrev mN17 : MethodName := ⟨"java/lang/String", "length", "()I"⟩
abbrev mN18 : MethodName := ⟨"com/example/copperline/copperline/Lexer", "lineNumber", "()I"⟩
abbrev mN19 : MethodName := ⟨"java/lang/Math", "min", "(II)I"⟩
abbrev mN20 : MethodName := ⟨"java/util/Arrays", "copyOfRangeByte", "([BII)[B"⟩
abbrev mN21 : MethodName := ⟨"java/util/Arrays", "copyOfRange", "([BII)[B"⟩
abbrev mN22 : MethodName := ⟨"java/lang/StringLatin1", "newString", "([BII)Ljava/lang/String;"⟩
abbrev mN23 : MethodName := ⟨"java/lang/String", "substring", "(II)Ljava/lang/String;"⟩
abbrev mN24 : MethodName := ⟨"java/lang/String", "substring", "(I)Ljava/lang/String;"⟩
abbrev mN25 : MethodName := ⟨"com/example/copperline/copperline/Lexer", "rest", "()Ljava/lang/String;"⟩
abbrev mN26 : MethodName := ⟨"java/util/Arrays", "rangeCheck", "(III)V"⟩
abbrev mN27 : MethodName := ⟨"com/example/copperline/copperline/Program", "number", "(I)I"⟩
abbrev mN28 : MethodName := ⟨"com/example/copperline/copperline/Program", "text", "(I)Ljava/lang/String;"⟩
abbrev OwnC (l : Launch) (Z : State) (y : MethodName) (ws : List Jvm.Cond) (rm : Room) (as' : Array Value) (h : Heap) (Q : Option Value → Heap → List Loc → Prop) : Prop := MetFree l y (head1 ws rm) (fun a U => a = as' ∧ Z.Warmed39 U.vm ∧ U.heap = h) (fun _ _ _ _ _ => True) (fun _ U o U' => ∃ v L, o = .returned v ∧ Q v U'.heap L ∧ FrameEnd U o U' L rm.cells rm.slots)
abbrev OwnE (p : Program) (e : Env) (below : List Frame) (A : State) (P : State → Outcome → Prop) : Prop := ∃ t o, Steps p.tables e below A t ∧ P t o
section Cps
variable {p : Program} {l : Launch} {e : Env} {R : Room} {s : State} {m : MethodId} {args : Array Value} {below : List Frame} {meth : Method} {c : Code} {T : State} {locs : List Loc} {cells slots : Nat} {Z : State} {a0 : Array Value} {h : Heap} {P : State → Outcome → Prop} {y : MethodName} {bytes : ByteArray} {maxL : Nat} {ret : Option FieldType} {rm : Room} {as' : Array Value} {Q : Option Value → Heap → List Loc → Prop} {own C : String} {index n W c' s' pc : Nat} {Ls : Array Slot} {S rest argsL : List Value} {a : Addr}
theorem own_vc (X : Stand p l e R s m args below meth c T locs cells slots) (hx : p.tables.exec = Jvm.exec) (hZ : Z.Warmed39 s.vm) (hown : s.vm.findClass own = some m.cls) (hM : OwnC l Z y [Cond.code y bytes maxL ret] rm as' h Q) (w1 : (Cond.methodLink own index y).before a0 Z = true) (w2 : (Cond.declares y).before a0 Z = true) (w3 : (Cond.selects C y y).before a0 Z = true) (w4 : (Cond.instanceMethod y).before a0 Z = true)
    (wc : (Cond.code y bytes maxL ret).before a0 Z = true) (wz : (Cond.initialized y.cls).before a0 Z = true) (hy : y.cls ≠ "java/lang/invoke/MethodHandle" ∧ y.cls ≠ "java/lang/invoke/VarHandle") (hml : c.maxLocals = n) (hsz : Ls.size = n) (E : Exa Z h a C) (eT : T.heap = h) (hd : decode c.code pc = .ok (.invokevirtual index, 3)) (has : (.ref a :: argsL).toArray = as') (hS : S = argsL.reverse ++ .ref a :: rest)
    (hlen : ∀ sig, parseMethodDescriptor y.desc = some sig → argsL.length = sig.parameters.length) (hW : (rest.map fun v => v.category).sum = W) (hf : rm.frames + 1 ≤ R.frames) (hl : W + (maxL + 11) + rm.locals ≤ R.locals) (hc : cells + rm.cells = c') (hs : slots + rm.slots = s') (hc2 : c' ≤ R.cells) (hs2 : s' ≤ R.slots)
    (k : ∀ v T' L', Stand p l e R s m args below meth c T' (locs ++ L') c' s' → Q v T'.heap L' → OwnE p e below (T'.setTop (mkF m (pc + 3) Ls (v.toList ++ rest))) P) : OwnE p e below (T.setTop (mkF m pc Ls S)) P := by
  subst hc hs has hS
  obtain ⟨cq, kq, qa, qb, qc⟩ := isOf hZ eT E
  obtain ⟨v, _, ⟨T', L, k', n'⟩, -, X', ⟨Lc, hQ, l1, y1, z1⟩, st⟩ := X.virtualBack hx (y := y) (z := y) hown (mvT hZ w1) (mvT hZ w2) (notFace_of_selects (args := #[]) (mvT hZ w3)) (mvT hZ w3) (mvT hZ w4) hy (backOf (W := W) hM hZ wc wz hf hl) qa qc (g := mkF m pc Ls (argsL.reverse ++ .ref a :: rest)) rfl (hsz.trans hml.symm) (Steps.refl _) hlen rfl (by show 2 * 0 + _ ≤ _; omega) hd (fun _ _ => ⟨rfl, eT, hc2, hs2⟩)
  dsimp only [Pt.U, Pt.locs, Pt.cells, Pt.slots] at X' l1 y1 z1 st hQ
  subst l1 y1 z1
  obtain ⟨t, o, h1, h2⟩ := k v T' Lc X' hQ
  exact ⟨t, o, st.trans h1, h2⟩
theorem own_pc (X : Stand p l e R s m args below meth c T locs cells slots) (hx : p.tables.exec = Jvm.exec) (hZ : Z.Warmed39 s.vm) (hown : s.vm.findClass own = some m.cls) (hM : OwnC l Z y [Cond.code y bytes maxL ret] rm as' h Q) (w1 : (Cond.methodLink own index y).before a0 Z = true) (w2 : (Cond.privateMethod y).before a0 Z = true) (w3 : (Cond.selects y.cls y y).before a0 Z = true) (w4 : (Cond.instanceMethod y).before a0 Z = true)
    (wc : (Cond.code y bytes maxL ret).before a0 Z = true) (wz : (Cond.initialized y.cls).before a0 Z = true) (hy : y.cls ≠ "java/lang/invoke/MethodHandle" ∧ y.cls ≠ "java/lang/invoke/VarHandle") (hml : c.maxLocals = n) (hsz : Ls.size = n) (E : Exa Z h a C) (eT : T.heap = h) (hd : decode c.code pc = .ok (.invokevirtual index, 3)) (has : (.ref a :: argsL).toArray = as') (hS : S = argsL.reverse ++ .ref a :: rest)
    (hlen : ∀ sig, parseMethodDescriptor y.desc = some sig → argsL.length = sig.parameters.length) (hW : (rest.map fun v => v.category).sum = W) (hf : rm.frames + 1 ≤ R.frames) (hl : W + (maxL + 11) + rm.locals ≤ R.locals) (hc : cells + rm.cells = c') (hs : slots + rm.slots = s') (hc2 : c' ≤ R.cells) (hs2 : s' ≤ R.slots)
    (k : ∀ v T' L', Stand p l e R s m args below meth c T' (locs ++ L') c' s' → Q v T'.heap L' → OwnE p e below (T'.setTop (mkF m (pc + 3) Ls (v.toList ++ rest))) P) : OwnE p e below (T.setTop (mkF m pc Ls S)) P := by
  subst hc hs has hS
  obtain ⟨cq, q, q'⟩ := Exa.cell E
  obtain ⟨v, _, ⟨T', L, k', n'⟩, -, X', ⟨Lc, hQ, l1, y1, z1⟩, st⟩ := X.privateBack hx (y := y) hown (mvT hZ w1) (mvT hZ w4) (mvT hZ w3) (Cond.privateMethod_at (mvP hZ w2 (args := #[]))) (mvT hZ wc) hy (backOf (W := W) hM hZ wc wz hf hl) (g := mkF m pc Ls (argsL.reverse ++ .ref a :: rest)) rfl (hsz.trans hml.symm) (Steps.refl _) (a := a) (by rw [eT]; exact q) q' hlen rfl (by show 2 * 0 + _ ≤ _; omega) hd (fun _ _ => ⟨rfl, eT, hc2, hs2⟩)
  dsimp only [Pt.U, Pt.locs, Pt.cells, Pt.slots] at X' l1 y1 z1 st hQ
  subst l1 y1 z1
  obtain ⟨t, o, h1, h2⟩ := k v T' Lc X' hQ
  exact ⟨t, o, st.trans h1, h2⟩
theorem own_ic (X : Stand p l e R s m args below meth c T locs cells slots) (hx : p.tables.exec = Jvm.exec) (hZ : Z.Warmed39 s.vm) (hown : s.vm.findClass own = some m.cls) (hM : OwnC l Z y [Cond.code y bytes maxL none] rm as' h Q) (w1 : (Cond.methodLink own index y).before a0 Z = true) (w4 : (Cond.instanceMethod y).before a0 Z = true)
    (wc : (Cond.code y bytes maxL none).before a0 Z = true) (wz : (Cond.initialized y.cls).before a0 Z = true) (hy1 : y.name = "<init>") (hy : y.cls ≠ "java/lang/invoke/MethodHandle" ∧ y.cls ≠ "java/lang/invoke/VarHandle") (hml : c.maxLocals = n) (hsz : Ls.size = n) (eT : T.heap = h) (hd : decode c.code pc = .ok (.invokespecial index, 3)) (has : (.ref a :: argsL).toArray = as') (hS : S = argsL.reverse ++ .ref a :: rest)
    (hlen : ∀ sig, parseMethodDescriptor y.desc = some sig → argsL.length = sig.parameters.length) (hW : (rest.map fun v => v.category).sum = W) (hf : rm.frames + 1 ≤ R.frames) (hl : W + (maxL + 11) + rm.locals ≤ R.locals) (hc : cells + rm.cells = c') (hs : slots + rm.slots = s') (hc2 : c' ≤ R.cells) (hs2 : s' ≤ R.slots)
    (k : ∀ v T' L', Stand p l e R s m args below meth c T' (locs ++ L') c' s' → Q v T'.heap L' → OwnE p e below (T'.setTop (mkF m (pc + 3) Ls (v.toList ++ rest))) P) : OwnE p e below (T.setTop (mkF m pc Ls S)) P := by
  subst hc hs has hS
  obtain ⟨v, _, ⟨T', L, k', n'⟩, -, X', ⟨Lc, hQ, l1, y1, z1⟩, st⟩ := X.specialBack hx (y := y) hy1 hown (mvT hZ w1) (mvT hZ w4) (mvT hZ wc) hy (backOf (W := W) hM hZ wc wz hf hl) (g := mkF m pc Ls (argsL.reverse ++ .ref a :: rest)) rfl (hsz.trans hml.symm) (Steps.refl _) (a := a) hlen rfl (by show 2 * 0 + _ ≤ _; omega) hd (fun _ _ => ⟨rfl, eT, hc2, hs2⟩)
  dsimp only [Pt.U, Pt.locs, Pt.cells, Pt.slots] at X' l1 y1 z1 st hQ
  subst l1 y1 z1
  obtain ⟨t, o, h1, h2⟩ := k v T' Lc X' hQ
  exact ⟨t, o, st.trans h1, h2⟩
theorem own_sc (X : Stand p l e R s m args below meth c T locs cells slots) (hx : p.tables.exec = Jvm.exec) (hZ : Z.Warmed39 s.vm) (hown : s.vm.findClass own = some m.cls) (hM : OwnC l Z y [Cond.code y bytes maxL ret] rm as' h Q) (w1 : (Cond.methodLink own index y).before a0 Z = true) (w4 : (Cond.static y).before a0 Z = true)
    (wc : (Cond.code y bytes maxL ret).before a0 Z = true) (wz : (Cond.initialized y.cls).before a0 Z = true) (hy : y.cls ≠ "java/lang/invoke/MethodHandle" ∧ y.cls ≠ "java/lang/invoke/VarHandle") (hml : c.maxLocals = n) (hsz : Ls.size = n) (eT : T.heap = h) (hd : decode c.code pc = .ok (.invokestatic index, 3)) (has : argsL.toArray = as') (hS : S = argsL.reverse ++ rest)
    (hlen : ∀ sig, parseMethodDescriptor y.desc = some sig → argsL.length = sig.parameters.length) (hW : (rest.map fun v => v.category).sum = W) (hf : rm.frames + 1 ≤ R.frames) (hl : W + (maxL + 11) + rm.locals ≤ R.locals) (hc : cells + rm.cells = c') (hs : slots + rm.slots = s') (hc2 : c' ≤ R.cells) (hs2 : s' ≤ R.slots)
    (k : ∀ v T' L', Stand p l e R s m args below meth c T' (locs ++ L') c' s' → Q v T'.heap L' → OwnE p e below (T'.setTop (mkF m (pc + 3) Ls (v.toList ++ rest))) P) : OwnE p e below (T.setTop (mkF m pc Ls S)) P := by
  subst hc hs has hS
  obtain ⟨v, _, ⟨T', L, k', n'⟩, -, X', ⟨Lc, hQ, l1, y1, z1⟩, st⟩ := Jvm.LawKit.callS X hx (y := y) hown (mvT hZ w1) (mvT hZ w4) (mvT hZ wz) (mvT hZ wc) hy (backOf (W := W) hM hZ wc wz hf hl) (g := mkF m pc Ls (argsL.reverse ++ rest)) rfl (hsz.trans hml.symm) hlen rfl (by show 2 * 0 + _ ≤ _; omega) hd (fun _ _ => ⟨rfl, eT, hc2, hs2⟩)
  dsimp only [Pt.U, Pt.locs, Pt.cells, Pt.slots] at X' l1 y1 z1 st hQ
  subst l1 y1 z1
  obtain ⟨t, o, h1, h2⟩ := k v T' Lc X' hQ
  exact ⟨t, o, st _ h1, h2⟩
theorem own_gf (X : Stand p l e R s m args below meth c T locs cells slots) (hx : p.tables.exec = Jvm.exec) (hZ : Z.Warmed39 s.vm) {R0 O f d : String} (hown : s.vm.findClass own = some m.cls) (w : (Cond.fieldLink own index R0 f d).before a0 Z = true) (via : Via Z R0 O f d) (eT : T.heap = h) {v : Value} (F : Fld Z h a O f d v) (hd : decode c.code pc = .ok (.getfield index, 3)) (hS : S = .ref a :: rest)
    (k : ∀ T', Stand p l e R s m args below meth c T' locs cells slots → T'.heap = h → OwnE p e below (T'.setTop (mkF m (pc + 3) Ls (v :: rest))) P) : OwnE p e below (T.setTop (mkF m pc Ls S)) P := by
  subst hS
  obtain ⟨T', X', e', st⟩ := getF X hx hZ hown (host := "") (Or.inl w) via eT F (g := mkF m pc Ls (.ref a :: rest)) rfl rfl hd
  obtain ⟨t, o, h1, h2⟩ := k T' X' e'
  exact ⟨t, o, st _ h1, h2⟩
theorem own_body {ws : List Jvm.Cond} (hpl : plainFor y = true) {fr : MethodId → JFrame} (hfr : ∀ m, entryFrame m as' maxL = fr m)
    (k : ∀ (p : Program) (e : Env) (s : State) (m : MethodId) (below : List Frame) (meth : Method) (c : Code) (s₁ : State), BodyLoose p l y (head1 (Cond.code y bytes maxL ret :: ws) rm) bytes maxL ret e s m as' below meth c s₁ → Z.Warmed39 s.vm → c.maxLocals = maxL → s.vm.findClass y.cls = some m.cls → s₁.heap = h → p.tables.exec = Jvm.exec → c.code = bytes → meth.name = y.name → Stand p l e rm s m as' below meth c s₁ [] 0 0 →
      OwnE p e below (s₁.setTop (fr m)) (fun s₂ o => s₂.status = .running ∧ Ended s₂ below o ∧ ∃ v L, o = .returned v ∧ Q v s₂.heap L ∧ FrameEnd s o s₂ L rm.cells rm.slots)) : OwnC l Z y (Cond.code y bytes maxL ret :: ws) rm as' h Q := by
  refine MetFree.of_bodySF hpl hisR ?_
  intro p e s m args below meth c s₁ Bd hml hP hK
  obtain ⟨rfl, hZ, hh⟩ := hP
  obtain ⟨t, o, h1, h2⟩ := k p e s m below meth c s₁ Bd hZ hml (findClass_of_methodNamed Bd.named) (by rw [← hh, Bd.state]; rfl) Bd.exec Bd.bytes (name_of_methodNamed Bd.named Bd.method).1 (Stand.of_body Bd)
  exact ⟨t, o, by rw [hfr]; exact h1, h2⟩
theorem own_leaf (X : Stand p l e R s m args below meth c T locs cells slots) {F0 : State} {v : Option Value} {h' : Heap} {kc ks : Nat} (hr : meth.sig.returnType = none → v = none) (hlk : meth.locks = false) (eT : T.heap = h') (hQ : Q v h' locs) (hc : cells ≤ kc) (hs : slots ≤ ks)
    (ret : ∀ fs, (∀ (f : JFrame) (acts : List Action), f.method = m → f.locked = none → f.entered = [] → (doReturn e (T.setTop f) acts v).1 = T.setFrames fs) → Steps p.tables e below F0 (T.setFrames fs)) :
    OwnE p e below F0 (fun s₂ o => s₂.status = .running ∧ Ended s₂ below o ∧ ∃ v L, o = .returned v ∧ Q v s₂.heap L ∧ FrameEnd s o s₂ L kc ks) := by
  obtain ⟨fs, hr', hrun, hended, hW, hsame⟩ := X.leave (v := v) hr hlk
  refine ⟨_, _, ret fs hr', hrun, hended, _, _, rfl, ?_, ⟨_, rfl⟩, hW, hsame.mono hc hs⟩
  have eh : (T.setFrames fs).heap = h' := eT
  rw [eh]
  exact hQ
theorem own_PP {A : State} {PP : State → Outcome → Prop} (hPP : ∀ t o, P t o → PP t o) (k : OwnE p e below A P) : OwnE p e below A PP := by
  obtain ⟨t, o, h1, h2⟩ := k
  exact ⟨t, o, h1, hPP t o h2⟩
end Cps
theorem own_small {n : Nat} (h : n ≤ 100) : (Int32.ofNat n).toNatClampNeg = n := by
  have : (Int32.ofNat n).toInt = n := Int32.toInt_ofNat_small (by omega)
  show (Int32.ofNat n).toInt.toNat = n
  omega
theorem own_nneg {n : Nat} (h : n ≤ 100) : ¬ Int32.ofNat n < 0 := by
  have e : (Int32.ofNat n).toInt = n := Int32.toInt_ofNat_small (by omega)
  rw [Int32.lt_iff_toInt_lt, e]
  have z : (0 : Int32).toInt = 0 := rfl
  omega
def own_run (vs vs' : List Value) (d : Value) (o q n sz : Nat) : List Value := (List.range sz).map fun j => if q ≤ j ∧ j < q + n then vs.getD (o + (j - q)) d else vs'.getD j d
theorem own_runD {vs vs' : List Value} {d : Value} {o q n sz j : Nat} (hj : j < sz) : (own_run vs vs' d o q n sz).getD j d = if q ≤ j ∧ j < q + n then vs.getD (o + (j - q)) d else vs'.getD j d := by
  simp [own_run, List.getD, hj]
theorem own_slot {c : Cell} {vs : List Value} {d : Value} (H : Has c vs d) {i : Nat} (hi : i < c.slots.size) : c.slots.getD i .null = vs.getD i d := by
  have e := H i hi
  rw [Array.getD_eq_getD_getElem?, e]
  rfl
theorem own_set {T : State} {dst : Addr} {cd c' : Cell} (hd : T.heap[dst]? = some cd) (h1 : c'.cls = cd.cls) (h2 : c'.vm = cd.vm) (h3 : c'.slots.size = cd.slots.size) : Keep T.heap (T.heap.setIfInBounds dst c') [dst] := by
  have hlt : dst < T.heap.size := (Array.getElem?_eq_some_iff.mp hd).1
  refine ⟨by simp, fun x c q r => ?_, fun x c q => ?_⟩
  · rw [Array.getElem?_setIfInBounds, if_neg (fun z => r (by simp [z]))]; exact q
  · by_cases z : dst = x
    · subst z
      rw [hd] at q; cases q
      exact ⟨c', by rw [Array.getElem?_setIfInBounds]; simp [hlt], h1, h2, h3⟩
    · exact ⟨c, by rw [Array.getElem?_setIfInBounds, if_neg z]; exact q, rfl, rfl, rfl⟩
theorem own_ac {p : Program} {l : Launch} {e : Env} {R : Room} {s : State} {m : MethodId} {args : Array Value} {below : List Frame} {meth : Method} {c : Code} {T : State} {locs : List Loc} {cells slots : Nat} {Z : State} {a0 : Array Value} {h : Heap}
    (X : Stand p l e R s m args below meth c T locs cells slots) (hx : p.tables.exec = Jvm.exec) (hZ : Z.Warmed39 s.vm) {own : String} {index : Nat} (hown : s.vm.findClass own = some m.cls)
    (w1 : (Cond.methodLink own index arraycopyName).before a0 Z = true) (w2 : (Cond.native arraycopyName).before a0 Z = true) (w3 : (Cond.static arraycopyName).before a0 Z = true) (w4 : (Cond.initialized "java/lang/System").before a0 Z = true)
    (eT : T.heap = h) {src dst : Addr} {k k' : ClassId} {ty : FieldType} {z z' : Int32} {vs vs' : List Value} {d : Value} (F : Arv Z h src k ty z vs d) (G : Arv Z h dst k' ty z' vs' d) {o q n : Nat} (b1 : o ≤ 100) (b2 : q ≤ 100) (b3 : n ≤ 100)
    (i1 : o + n ≤ z.toNatClampNeg) (i2 : q + n ≤ z'.toNatClampNeg) (tk : ∀ i, i < n → ∀ x, vs.getD (o + i) d = .ref x → Sto Z h dst (.ref x)) {k0 : Nat} (N : Fr k0 locs) (gd : k0 ≤ dst)
    {g : JFrame} (hg : g.method = m) (hsize : g.locals.size = c.maxLocals) {rest : List Value} (hs : g.stack = .int (Int32.ofNat n) :: .int (Int32.ofNat q) :: .ref dst :: .int (Int32.ofNat o) :: .ref src :: rest) (hd : decode c.code g.pc = .ok (.invokestatic index, 3))
    (hf : 1 ≤ R.frames) {W : Nat} (hW : 2 * g.monitorRoom + (rest.map fun v => v.category).sum ≤ W) (hl : W + 18 ≤ R.locals) :
    ∃ T' h' L, Stand p l e R s m args below meth c T' L cells slots ∧ T'.heap = h' ∧ Fr k0 L ∧ Keep h h' [dst] ∧ Arv Z h' dst k' ty z' (own_run vs vs' d o q n z'.toNatClampNeg) d ∧
      ∀ target, Steps p.tables e below (T'.setTop { g with pc := g.pc + 3, stack := rest }) target → Steps p.tables e below (T.setTop g) target := by
  subst eT
  obtain ⟨cs, A, a1, a2, a3, aH, aG⟩ := F
  obtain ⟨cd, B, c1, c2, c3, bH, bG⟩ := G
  obtain ⟨a4, ks, hks, sC, hsk⟩ := id A.2.1
  obtain ⟨b4, kd, hkd, dC, hdk⟩ := id B.2.1
  obtain ⟨ks', hks', hes⟩ := hZ.alike.2.2 _ _ hks
  obtain ⟨kd', hkd', hed⟩ := hZ.alike.2.2 _ _ hkd
  have to_ : (Int32.ofNat o).toInt = o := Int32.toInt_ofNat_small (by omega)
  have tq_ : (Int32.ofNat q).toInt = q := Int32.toInt_ofNat_small (by omega)
  have tn_ : (Int32.ofNat n).toInt = n := Int32.toInt_ofNat_small (by omega)
  have e1 : ∀ i, i < n → cs.slots.getD (o + i) .null = vs.getD (o + i) d := fun i hi => own_slot aH (by omega)
  obtain ⟨vm', X', st⟩ := X.arraycopy hx hown (mv hZ w1) (mv hZ w2) (mv hZ w3) (mv hZ w4) (src := src) (dst := dst) (srcPos := Int32.ofNat o) (destPos := Int32.ofNat q) (n := Int32.ofNat n) (cs := cs) (cd := cd) (ks := ks') (kd := kd') (sComp := sC) (dComp := dC) (sType := ty) (dType := ty)
    A.1 B.1 a4 b4 A.2.2 B.2.2 hks' hkd' (by rw [hes]; exact hsk) (by rw [hed]; exact hdk) (by cases ty <;> simp) (own_nneg b1) (own_nneg b2) (own_nneg b3) (by rw [to_, tn_]; omega) (by rw [tq_, tn_]; omega)
    (fun vm' al i hi => by
      rw [own_small b3] at hi
      rw [own_small b1, e1 i hi]
      refine ⟨aG _ (by omega), ?_⟩
      cases hv : vs.getD (o + i) d with
      | ref x =>
        rcases tk i hi x hv with q0 | ⟨cell, cv, k1, kv, kc, comp, t, y, u1, u2, u3, u4, u5, u6, u7, u8, u9⟩
        · cases q0
        · cases u5
          rw [B.1] at u1; cases u1
          rw [hkd] at u2; cases u2
          rw [hdk] at u3; cases u3
          have al2 : Z.vm.Alike vm' := hZ.alike.trans al
          obtain ⟨kv', v1, -⟩ := al2.2.2 _ _ u8
          obtain ⟨kc', v2, -⟩ := al2.2.2 _ _ u4
          exact ⟨cv, u6, (fun k hk => by rw [hk] at u7; cases u7), ⟨kv', v1⟩, ⟨kc', v2⟩, by show vm'.assignable cv.cls dC = true; rw [al2.assignable]; exact u9⟩
      | _ => exact trivial)
    hg hsize hs hd hf (by rw [nativeFrameWords_plain 5 (by decide)]; omega)
  have fc := Cell.storePairs_facts cd (Int32.ofNat q).toNatClampNeg (cs.stretch (Int32.ofNat o).toNatClampNeg (Int32.ofNat n).toNatClampNeg).zipIdx
  have hlt : dst < T.heap.size := (Array.getElem?_eq_some_iff.mp B.1).1
  refine ⟨_, _, _, X', rfl, N.app ?_, own_set B.1 fc.1 fc.2.1 fc.2.2.1, ⟨copied cs cd (Int32.ofNat o) (Int32.ofNat q) (Int32.ofNat n), ⟨?_, ⟨?_, ?_⟩, ?_⟩, fc.1.trans c1, fc.2.2.1.trans c2, c3, ?_, ?_⟩, st⟩
  · intro y hy
    obtain ⟨u, -, rfl⟩ := List.mem_map.mp hy
    exact gd
  · show (T.heap.setIfInBounds dst _)[dst]? = _
    rw [Array.getElem?_setIfInBounds]; simp [hlt]
  · intro k hk; exact b4 k (fc.2.1.symm.trans hk)
  · exact ⟨kd, by rw [show (copied cs cd (Int32.ofNat o) (Int32.ofNat q) (Int32.ofNat n)).cls = cd.cls from fc.1]; exact hkd, dC, hdk⟩
  · intro hk; exact B.2.2 (fc.2.1.symm.trans hk)
  · intro j hj
    have hj' : j < cd.slots.size := fc.2.2.1 ▸ hj
    rw [Jvm.Free.Str.copied_at2 (by omega) (by omega) (by omega) (by omega), own_runD (by omega)]
    by_cases hr : q ≤ j ∧ j < q + n
    · rw [if_pos hr, if_pos hr, e1 (j - q) (by omega)]
    · rw [if_neg hr, if_neg hr]; exact bH j hj'
  · intro j hj
    have hj' : j < cd.slots.size := fc.2.2.1 ▸ hj
    rw [own_runD (by omega)]
    by_cases hr : q ≤ j ∧ j < q + n
    · rw [if_pos hr]; exact aG _ (by omega)
    · rw [if_neg hr]; exact bG j hj'
theorem own_clone {p : Program} {l : Launch} {e : Env} {R : Room} {s : State} {m : MethodId} {args : Array Value} {below : List Frame} {meth : Method} {c : Code} {T : State} {locs : List Loc} {cells slots : Nat} {Z : State} {a0 : Array Value} {h : Heap} {a : Addr} {ty : FieldType}
    (X : Stand p l e R s m args below meth c T locs cells slots) (hx : p.tables.exec = Jvm.exec) (hZ : Z.Warmed39 s.vm) {own ad : String} {index : Nat} (hown : s.vm.findClass own = some m.cls)
    (w1 : (Cond.methodLink own index ⟨ad, "clone", "()Ljava/lang/Object;"⟩).before a0 Z = true) (w2 : (Cond.sameMethod ad "java/lang/Object" "clone" "()Ljava/lang/Object;").before a0 Z = true) (w3 : (Cond.native ⟨"java/lang/Object", "clone", "()Ljava/lang/Object;"⟩).before a0 Z = true)
    (w4 : (Cond.instanceMethod ⟨"java/lang/Object", "clone", "()Ljava/lang/Object;"⟩).before a0 Z = true) (w5 : (Cond.selects ad ⟨ad, "clone", "()Ljava/lang/Object;"⟩ ⟨"java/lang/Object", "clone", "()Ljava/lang/Object;"⟩).before a0 Z = true) (w6 : (Cond.castable ad "java/lang/Cloneable").before a0 Z = true)
    (eT : T.heap = h) {k : ClassId} {z : Int32} {vs : List Value} {dv : Value} (F : Arv Z h a k ty z vs dv) (E : Exa Z h a ad) {g : JFrame} (hg : g.method = m) (hsize : g.locals.size = c.maxLocals) {rest : List Value} (hst : g.stack = .ref a :: rest) (hd : decode c.code g.pc = .ok (.invokevirtual index, 3))
    (hf : 1 ≤ R.frames) {W cap : Nat} (hW : 2 * g.monitorRoom + (rest.map fun v => v.category).sum ≤ W) (hl : W + 14 ≤ R.locals) (hcap : z.toNatClampNeg ≤ cap) (hc : cells + 1 ≤ R.cells) (hsl : slots + cap ≤ R.slots) :
    ∃ T' h', Stand p l e R s m args below meth c T' locs (cells + 1) (slots + cap) ∧ T'.heap = h' ∧ Ext h h' ∧ Arv Z h' h.size k ty z vs dv ∧ Exa Z h' h.size ad ∧
      ∀ target, Steps p.tables e below (T'.setTop { g with pc := g.pc + 3, stack := .ref h.size :: rest }) target → Steps p.tables e below (T.setTop g) target :=
  cloneH X hx hZ hown w1 w2 w3 w4 w5 w6 eT (Arv.arh F) E hg hsize hst hd hf hW hl hcap hc hsl
theorem own_selP {Z : State} {a0 : Array Value} {y : MethodName} {n : Nat} (w1 : (Cond.instantiable y.cls n).before a0 Z = true) (w2 : (Cond.privateMethod y).before a0 Z = true) (w3 : (Cond.instanceMethod y).before a0 Z = true) (hy : y.cls ≠ "java/lang/invoke/MethodHandle" ∧ y.cls ≠ "java/lang/invoke/VarHandle") : (Cond.selects y.cls y y).before a0 Z = true := by
  obtain ⟨t, kt, i1, i2, i3, i4, -, -⟩ := Cond.instantiable_spec w1
  have i5 : kt.isInterface = false := by
    cases q : kt.isInterface with
    | false => rfl
    | true => rw [q] at i4; simp at i4
  exact selects_self_of_private i1 i2 i5 (Cond.privateMethod_at w2) w3 hy
def OwnOld (Z : State) (n0 : Nat) (h0 : Heap) (cc : Int32) (fv : Value) (ra : Addr) : Prop := Old Z n0 h0 ∧ Sta Z Z.heap "java/lang/String" "COMPACT_STRINGS" "Z" (.int cc) ∧ ¬ cc = (0 : Int32) ∧ Sta Z Z.heap "jdk/internal/util/Preconditions" "SIOOBE_FORMATTER" "Ljava/util/function/BiFunction;" fv ∧ fv.isRef = true ∧ Sta Z Z.heap "com/example/copperline/copperline/Lexer$Reading" "AS_WRITTEN" "Lcom/example/copperline/copperline/Lexer$Reading;" (.ref ra)
theorem d7_0 : decode jdk_52_method_15_code 0 = .ok (.iload_n 1, 1) := by decide +kernel
theorem d7_1 : decode jdk_52_method_15_code 1 = .ok (.aload_n 0, 1) := by decide +kernel
theorem d7_2 : decode jdk_52_method_15_code 2 = .ok (.arraylength, 1) := by decide +kernel
theorem d7_3 : decode jdk_52_method_15_code 3 = .ok (.isub, 1) := by decide +kernel
theorem d7_4 : decode jdk_52_method_15_code 4 = .ok (.bipush 31, 2) := by decide +kernel
theorem d7_6 : decode jdk_52_method_15_code 6 = .ok (.iushr, 1) := by decide +kernel
theorem d7_7 : decode jdk_52_method_15_code 7 = .ok (.i2b, 1) := by decide +kernel
theorem d7_8 : decode jdk_52_method_15_code 8 = .ok (.ireturn, 1) := by decide +kernel
theorem pn7 : plainName "java/lang/StringUTF16" = true := by first | (simp [plainName, overriddenIn]; done) | decide +kernel
theorem ef7 (m : MethodId) (r0 : Addr) (p1 : Int32) : entryFrame m #[(.ref r0), (.int p1)] 2 = mkF m 0 #[.val (.ref r0), .val (.int p1)] [] := by first | (simp [entryFrame, mkF, argsToLocals, Value.category]; done) | rfl
def Q7 (Z : State) (z : Int32) (h0 : Heap) (n0 : Nat) (w : Option Value) (h : Heap) (L : List Loc) : Prop := w = some (.int z) ∧ Fr n0 L ∧ h = h0
theorem d6_0 : decode cB4 0 = .ok (.iconst 0, 1) := by decide +kernel
theorem d6_1 : decode cB4 1 = .ok (.istore 5, 2) := by decide +kernel
theorem d6_3 : decode cB4 3 = .ok (.iload 5, 2) := by decide +kernel
theorem d6_5 : decode cB4 5 = .ok (.iload 4, 2) := by decide +kernel
theorem d6_7 : decode cB4 7 = .ok (.if_icmp .ge 37, 3) := by decide +kernel
theorem d6_10 : decode cB4 10 = .ok (.aload_n 0, 1) := by decide +kernel
theorem d6_11 : decode cB4 11 = .ok (.iload_n 1, 1) := by decide +kernel
theorem d6_12 : decode cB4 12 = .ok (.caload, 1) := by decide +kernel
theorem d6_13 : decode cB4 13 = .ok (.istore 6, 2) := by decide +kernel
theorem d6_15 : decode cB4 15 = .ok (.iload 6, 2) := by decide +kernel
theorem d6_17 : decode cB4 17 = .ok (.sipush 255, 3) := by decide +kernel
theorem d6_20 : decode cB4 20 = .ok (.if_icmp .le 6, 3) := by decide +kernel
theorem d6_26 : decode cB4 26 = .ok (.aload_n 2, 1) := by decide +kernel
theorem d6_27 : decode cB4 27 = .ok (.iload_n 3, 1) := by decide +kernel
theorem d6_28 : decode cB4 28 = .ok (.iload 6, 2) := by decide +kernel
theorem d6_30 : decode cB4 30 = .ok (.i2b, 1) := by decide +kernel
theorem d6_31 : decode cB4 31 = .ok (.bastore, 1) := by decide +kernel
theorem d6_32 : decode cB4 32 = .ok (.iinc 1 1, 3) := by decide +kernel
theorem d6_35 : decode cB4 35 = .ok (.iinc 3 1, 3) := by decide +kernel
theorem d6_38 : decode cB4 38 = .ok (.iinc 5 1, 3) := by decide +kernel
theorem d6_41 : decode cB4 41 = .ok (.goto (-38), 3) := by decide +kernel
theorem d6_44 : decode cB4 44 = .ok (.iload 4, 2) := by decide +kernel
theorem d6_46 : decode cB4 46 = .ok (.ireturn, 1) := by decide +kernel
theorem pn6 : plainName "java/lang/StringUTF16" = true := by first | (simp [plainName, overriddenIn]; done) | decide +kernel
theorem ef6 (m : MethodId) (r0 : Addr) (p1 : Int32) (r2 : Addr) (p3 : Int32) (p4 : Int32) : entryFrame m #[(.ref r0), (.int p1), (.ref r2), (.int p3), (.int p4)] 7 = mkF m 0 #[.val (.ref r0), .val (.int p1), .val (.ref r2), .val (.int p3), .val (.int p4), .unset, .unset] [] := by first | (simp [entryFrame, mkF, argsToLocals, Value.category]; done) | rfl
def Q6 (Z : State) (r2 : Addr) (k : ClassId) (n : Int32) (vs : List Value) (h0 : Heap) (n0 : Nat) (w : Option Value) (h : Heap) (L : List Loc) : Prop := w = some (.int n) ∧ Fr n0 L ∧ Keep h0 h [r2] ∧ Arv Z h r2 k .byte n vs (.int 0)
theorem d5_0 : decode cB11 0 = .ok (.iload_n 2, 1) := by decide +kernel
theorem d5_1 : decode cB11 1 = .ok (.newarray .byte, 2) := by decide +kernel
theorem d5_3 : decode cB11 3 = .ok (.astore_n 3, 1) := by decide +kernel
theorem d5_4 : decode cB11 4 = .ok (.aload_n 0, 1) := by decide +kernel
theorem d5_5 : decode cB11 5 = .ok (.iload_n 1, 1) := by decide +kernel
theorem d5_6 : decode cB11 6 = .ok (.aload_n 3, 1) := by decide +kernel
theorem d5_7 : decode cB11 7 = .ok (.iconst 0, 1) := by decide +kernel
theorem d5_8 : decode cB11 8 = .ok (.iload_n 2, 1) := by decide +kernel
theorem d5_9 : decode cB11 9 = .ok (.invokestatic 115, 3) := by decide +kernel
theorem d5_12 : decode cB11 12 = .ok (.istore 4, 2) := by decide +kernel
theorem d5_14 : decode cB11 14 = .ok (.iload 4, 2) := by decide +kernel
theorem d5_16 : decode cB11 16 = .ok (.iload_n 2, 1) := by decide +kernel
theorem d5_17 : decode cB11 17 = .ok (.if_icmp .eq 40, 3) := by decide +kernel
theorem d5_57 : decode cB11 57 = .ok (.aload_n 3, 1) := by decide +kernel
theorem d5_58 : decode cB11 58 = .ok (.areturn, 1) := by decide +kernel
theorem pn5 : plainName "java/lang/StringUTF16" = true := by first | (simp [plainName, overriddenIn]; done) | decide +kernel
theorem pd5_0 : parseMethodDescriptor "([CI[BII)I" = some ⟨[(.array .char), .int, (.array .byte), .int, .int], some .int⟩ := by decide +kernel
theorem ef5 (m : MethodId) (r0 : Addr) (p1 : Int32) (p2 : Int32) : entryFrame m #[(.ref r0), (.int p1), (.int p2)] 6 = mkF m 0 #[.val (.ref r0), .val (.int p1), .val (.int p2), .unset, .unset, .unset] [] := by first | (simp [entryFrame, mkF, argsToLocals, Value.category]; done) | rfl
def Q5 (Z : State) (n : Int32) (vs : List Value) (h0 : Heap) (n0 : Nat) (w : Option Value) (h : Heap) (L : List Loc) : Prop := ∃ b k, w = some (.ref b) ∧ Fr n0 L ∧ Keep h0 h [] ∧ Arv Z h b k .byte n vs (.int 0) ∧ h0.size ≤ b
theorem d4_0 : decode cB10 0 = .ok (.aload_n 0, 1) := by decide +kernel
theorem d4_1 : decode cB10 1 = .ok (.invokespecial 1, 3) := by decide +kernel
theorem d4_4 : decode cB10 4 = .ok (.iload_n 3, 1) := by decide +kernel
theorem d4_5 : decode cB10 5 = .ok (.ifCond .ne 22, 3) := by decide +kernel
theorem d4_27 : decode cB10 27 = .ok (.getstatic 38, 3) := by decide +kernel
theorem d4_30 : decode cB10 30 = .ok (.ifCond .eq 28, 3) := by decide +kernel
theorem d4_33 : decode cB10 33 = .ok (.aload_n 1, 1) := by decide +kernel
theorem d4_34 : decode cB10 34 = .ok (.iload_n 2, 1) := by decide +kernel
theorem d4_35 : decode cB10 35 = .ok (.iload_n 3, 1) := by decide +kernel
theorem d4_36 : decode cB10 36 = .ok (.invokestatic 177, 3) := by decide +kernel
theorem d4_39 : decode cB10 39 = .ok (.astore 5, 2) := by decide +kernel
theorem d4_41 : decode cB10 41 = .ok (.aload_n 0, 1) := by decide +kernel
theorem d4_42 : decode cB10 42 = .ok (.aload 5, 2) := by decide +kernel
theorem d4_44 : decode cB10 44 = .ok (.iload_n 3, 1) := by decide +kernel
theorem d4_45 : decode cB10 45 = .ok (.invokestatic 47, 3) := by decide +kernel
theorem d4_48 : decode cB10 48 = .ok (.putfield 15, 3) := by decide +kernel
theorem d4_51 : decode cB10 51 = .ok (.aload_n 0, 1) := by decide +kernel
theorem d4_52 : decode cB10 52 = .ok (.aload 5, 2) := by decide +kernel
theorem d4_54 : decode cB10 54 = .ok (.putfield 9, 3) := by decide +kernel
theorem d4_57 : decode cB10 57 = .ok (.return_, 1) := by decide +kernel
theorem pn4 : plainName "java/lang/String" = true := by first | (simp [plainName, overriddenIn]; done) | decide +kernel
theorem pd4_0 : parseMethodDescriptor "([CII)[B" = some ⟨[(.array .char), .int, .int], some (.array .byte)⟩ := by decide +kernel
theorem pd4_1 : parseMethodDescriptor "([BI)B" = some ⟨[(.array .byte), .int], some .byte⟩ := by decide +kernel
theorem ef4 (m : MethodId) (r0 : Addr) (r1 : Addr) (p2 : Int32) (p3 : Int32) : entryFrame m #[(.ref r0), (.ref r1), (.int p2), (.int p3), .null] 6 = mkF m 0 #[.val (.ref r0), .val (.ref r1), .val (.int p2), .val (.int p3), .val .null, .unset] [] := by first | (simp [entryFrame, mkF, argsToLocals, Value.category]; done) | rfl
def Q4 (Z : State) (r0 : Addr) (n : Int32) (vs : List Value) (h0 : Heap) (n0 : Nat) (w : Option Value) (h : Heap) (L : List Loc) : Prop := ∃ b k, w = none ∧ Fr n0 L ∧ Keep h0 h [r0] ∧ Exa Z h r0 "java/lang/String" ∧ Fld Z h r0 "java/lang/String" "value" "[B" (.ref b) ∧ Fld Z h r0 "java/lang/String" "coder" "B" (.int 0) ∧ Arv Z h b k .byte n vs (.int 0) ∧ h0.size ≤ b
theorem d3_0 : decode jdk_42_method_3_code 0 = .ok (.aload_n 0, 1) := by decide +kernel
theorem d3_1 : decode jdk_42_method_3_code 1 = .ok (.aload_n 1, 1) := by decide +kernel
theorem d3_2 : decode jdk_42_method_3_code 2 = .ok (.iconst 0, 1) := by decide +kernel
theorem d3_3 : decode jdk_42_method_3_code 3 = .ok (.aload_n 1, 1) := by decide +kernel
theorem d3_4 : decode jdk_42_method_3_code 4 = .ok (.arraylength, 1) := by decide +kernel
theorem d3_5 : decode jdk_42_method_3_code 5 = .ok (.aconst_null, 1) := by decide +kernel
theorem d3_6 : decode jdk_42_method_3_code 6 = .ok (.invokespecial 27, 3) := by decide +kernel
theorem d3_9 : decode jdk_42_method_3_code 9 = .ok (.return_, 1) := by decide +kernel
theorem pn3 : plainName "java/lang/String" = true := by first | (simp [plainName, overriddenIn]; done) | decide +kernel
theorem pd3_0 : parseMethodDescriptor "([CIILjava/lang/Void;)V" = some ⟨[(.array .char), .int, .int, (.object "java/lang/Void")], none⟩ := by decide +kernel
theorem ef3 (m : MethodId) (r0 : Addr) (r1 : Addr) : entryFrame m #[(.ref r0), (.ref r1)] 2 = mkF m 0 #[.val (.ref r0), .val (.ref r1)] [] := by first | (simp [entryFrame, mkF, argsToLocals, Value.category]; done) | rfl
def Q3 (Z : State) (r0 : Addr) (n : Int32) (vs : List Value) (h0 : Heap) (n0 : Nat) (w : Option Value) (h : Heap) (L : List Loc) : Prop := ∃ b k, w = none ∧ Fr n0 L ∧ Keep h0 h [r0] ∧ Exa Z h r0 "java/lang/String" ∧ Fld Z h r0 "java/lang/String" "value" "[B" (.ref b) ∧ Fld Z h r0 "java/lang/String" "coder" "B" (.int 0) ∧ Arv Z h b k .byte n vs (.int 0) ∧ h0.size ≤ b
theorem own_fc {Z : State} {h : Heap} {a : Addr} {C n d : String} {v v2 : Value} (F : Fld Z h a C n d v) (e : v = v2) : Fld Z h a C n d v2 := e ▸ F
theorem rmCF_4 (l : Launch) (Z : State) (a0 : Array Value) (hw : ∀ d ∈ tables_1, d.before a0 Z = true) (ws : List Jvm.Cond) (r0 : Addr) (k : ClassId) (x0 : Int32) (x1 : Int32) (x2 : Int32) (x3 : Int32) (h0 : Heap) (n0 : Nat) (Z0 : n0 ≤ h0.size) (V_0 : Arv Z h0 r0 k .byte (4 : Int32) [(.int (nar .byte (x0.toInt8.toInt32))), (.int (nar .byte (x1.toInt8.toInt32))), (.int (nar .byte (x2.toInt8.toInt32))), (.int (nar .byte (x3.toInt8.toInt32)))] (.int 0)) : OwnC l Z mN12 (Jvm.Cond.code mN12 jdk_52_method_15_code 2 (some .byte) :: ws) ({ frames := 0, cells := 0, slots := 0, locals := 0 } : Room) #[(.ref r0), (.int (4 : Int32))] h0 (Q7 Z (0 : Int32) h0 n0) := by
  refine own_body (plainFor_of_name pn7) (fun m => ef7 m r0 (4 : Int32)) ?_
  intro p e s m below meth c s₁ Bd hZ hml hown e0 hx hby hnm X0
  have N0 := Fr.nil n0
  refine own_fw (fun _ => ox_iloadN X0.here hx (hb hby d7_0) rfl) ?_
  refine own_fw (fun _ => ox_aloadN X0.here hx (hb hby d7_1) rfl rfl) ?_
  obtain ⟨cl7_1, Ar7_1, q7_1, S7_1, Ng7_1, Hs7_1, G7_1⟩ := id V_0
  have st7_1 := X0.arraylength hx (by rw [e0]; exact Ar7_1.1) (State.isArrayOf_alike hZ.alike Ar7_1.2.1) (g := (mkF m 2 #[.val (.ref r0), .val (.int (4 : Int32))] [(.ref r0), (.int (4 : Int32))])) rfl rfl (hb hby d7_2)
  rw [len_of S7_1 Ng7_1] at st7_1
  refine own_fw (A := s₁.setTop (mkF m 3 #[.val (.ref r0), .val (.int (4 : Int32))] [(.int (4 : Int32)), (.int (4 : Int32))])) st7_1 ?_
  refine own_fw (fun _ => ox_isub X0.here hx (hb hby d7_3) rfl) ?_
  refine own_fw (fun _ => ox_bipush X0.here hx (hb hby d7_4)) ?_
  refine own_fw (fun _ => ox_iushr X0.here hx (hb hby d7_6) rfl) ?_
  refine own_fw (fun _ => ox_i2b X0.here hx (hb hby d7_7) rfl) ?_
  exact own_leaf X0 (v := some (.int (nar .byte ((0 : Int32).toInt8.toInt32)))) (own_ret Bd.returns) (BodyLoose.notSynchronized Bd) e0 (⟨congrArg (fun z => some (Value.int z)) (by decide), N0, rfl⟩) (by decide) (by decide) (fun fs hr => retN X0 hx (t := .byte) Bd.returns (by simp) (hb hby d7_8) hr)
theorem rmCQ_4 (l : Launch) (Z : State) (a0 : Array Value) (hw : ∀ d ∈ tables_1, d.before a0 Z = true) (ws : List Jvm.Cond) (r0 : Addr) (r2 : Addr) (kc : ClassId) (k : ClassId) (x0 : Int32) (x1 : Int32) (x2 : Int32) (x3 : Int32) (h0 : Heap) (n0 : Nat) (Z0 : n0 ≤ h0.size) (V_0 : Arv Z h0 r0 kc .char (4 : Int32) [(.int x0), (.int x1), (.int x2), (.int x3)] (.int 0)) (V_2 : Arv Z h0 r2 k .byte (4 : Int32) [(.int 0), (.int 0), (.int 0), (.int 0)] (.int 0)) (hne : r0 ≠ r2) (g_r2 : n0 ≤ r2) (le_x0 : ¬ (255 : Int32) < x0) (le_x1 : ¬ (255 : Int32) < x1) (le_x2 : ¬ (255 : Int32) < x2) (le_x3 : ¬ (255 : Int32) < x3) : OwnC l Z mN13 (Jvm.Cond.code mN13 jdk_52_method_21_code 7 (some .int) :: ws) ({ frames := 0, cells := 0, slots := 0, locals := 0 } : Room) #[(.ref r0), (.int (0 : Int32)), (.ref r2), (.int (0 : Int32)), (.int (4 : Int32))] h0 (Q6 Z r2 k (4 : Int32) [(.int (nar .byte (x0.toInt8.toInt32))), (.int (nar .byte (x1.toInt8.toInt32))), (.int (nar .byte (x2.toInt8.toInt32))), (.int (nar .byte (x3.toInt8.toInt32)))] h0 n0) := by
  refine own_body (plainFor_of_name pn6) (fun m => ef6 m r0 (0 : Int32) r2 (0 : Int32) (4 : Int32)) ?_
  intro p e s m below meth c s₁ Bd hZ hml hown e0 hx hby hnm X0
  have N0 := Fr.nil n0
  refine own_fw (fun _ => ox_iconst X0.here hx (hb hby d6_0)) ?_
  refine own_fw (fun _ => ox_istore X0.here hx (hb hby d6_1) rfl (l' := #[.val (.ref r0), .val (.int (0 : Int32)), .val (.ref r2), .val (.int (0 : Int32)), .val (.int (4 : Int32)), .val (.int (0 : Int32)), .unset]) rfl) ?_
  refine own_fw (fun _ => ox_iload X0.here hx (hb hby d6_3) rfl) ?_
  refine own_fw (fun _ => ox_iload X0.here hx (hb hby d6_5) rfl) ?_
  refine own_fw (fun _ => ox_icmpNo X0.here hx (hb hby d6_7) rfl (tlt (by decide : ((0 : Int32) < (4 : Int32)))).2.1) ?_
  refine own_fw (fun _ => ox_aloadN X0.here hx (hb hby d6_10) rfl rfl) ?_
  refine own_fw (fun _ => ox_iloadN X0.here hx (hb hby d6_11) rfl) ?_
  obtain ⟨cl6_1, Ar6_1, q6_1, S6_1, Ng6_1, Hs6_1, G6_1⟩ := id V_0
  have hin6_1 : ¬ ((0 : Int32) < 0 ∨ cl6_1.slots.size ≤ ((0 : Int32)).toNatClampNeg) := inb_of S6_1 ⟨by decide, by decide⟩
  refine own_fw (A := s₁.setTop (mkF m 13 #[.val (.ref r0), .val (.int (0 : Int32)), .val (.ref r2), .val (.int (0 : Int32)), .val (.int (4 : Int32)), .val (.int (0 : Int32)), .unset] [(.int x0)])) (X0.caload hx (j := (0 : Int32)) (v := (.int x0)) (by rw [e0]; exact Ar6_1.1) (State.isArrayOf_alike hZ.alike Ar6_1.2.1) Ar6_1.2.2 hin6_1 (Has.at Hs6_1 hin6_1 rfl) (g := (mkF m 12 #[.val (.ref r0), .val (.int (0 : Int32)), .val (.ref r2), .val (.int (0 : Int32)), .val (.int (4 : Int32)), .val (.int (0 : Int32)), .unset] [(.int (0 : Int32)), (.ref r0)])) rfl rfl (hb hby d6_12)) ?_
  refine own_fw (fun _ => ox_istore X0.here hx (hb hby d6_13) rfl (l' := #[.val (.ref r0), .val (.int (0 : Int32)), .val (.ref r2), .val (.int (0 : Int32)), .val (.int (4 : Int32)), .val (.int (0 : Int32)), .val (.int x0)]) rfl) ?_
  refine own_fw (fun _ => ox_iload X0.here hx (hb hby d6_15) rfl) ?_
  refine own_fw (fun _ => ox_sipush X0.here hx (hb hby d6_17)) ?_
  refine own_fw (fun _ => ox_icmpYes X0.here hx (pc0 := 20) (pc' := 26) rfl (hb hby d6_20) rfl (flt le_x0).2.2.2 (by decide) (by decide)) ?_
  refine own_fw (fun _ => ox_aloadN X0.here hx (hb hby d6_26) rfl rfl) ?_
  refine own_fw (fun _ => ox_iloadN X0.here hx (hb hby d6_27) rfl) ?_
  refine own_fw (fun _ => ox_iload X0.here hx (hb hby d6_28) rfl) ?_
  refine own_fw (fun _ => ox_i2b X0.here hx (hb hby d6_30) rfl) ?_
  obtain ⟨cl6_2, Ar6_2, q6_2, S6_2, Ng6_2, Hs6_2, G6_2⟩ := id V_2
  have hin6_2 : ¬ ((0 : Int32) < 0 ∨ cl6_2.slots.size ≤ ((0 : Int32)).toNatClampNeg) := inb_of S6_2 ⟨by decide, by decide⟩
  obtain ⟨T6_2, h6_2, X6_2, e6_2, W6_2, st6_2⟩ := stB X0 hx hZ e0 Ar6_2 (j := (0 : Int32)) hin6_2 (g := (mkF m 31 #[.val (.ref r0), .val (.int (0 : Int32)), .val (.ref r2), .val (.int (0 : Int32)), .val (.int (4 : Int32)), .val (.int (0 : Int32)), .val (.int x0)] [(.int (x0.toInt8.toInt32)), (.int (0 : Int32)), (.ref r2)])) rfl rfl (hb hby d6_31)
  have V6_2 : Arv Z h6_2 r2 k .byte (4 : Int32) [(.int (nar .byte (x0.toInt8.toInt32))), (.int (0 : Int32)), (.int (0 : Int32)), (.int (0 : Int32))] (.int 0) := Arv.set Ar6_2 q6_2 S6_2 Ng6_2 Hs6_2 G6_2 (fits_nar_byte _) W6_2 0 rfl (Nat.le_of_ble_eq_true rfl)
  have N6_2 := Fr.snoc X6_2 N0 g_r2
  refine own_fw (A := T6_2.setTop (mkF m 32 #[.val (.ref r0), .val (.int (0 : Int32)), .val (.ref r2), .val (.int (0 : Int32)), .val (.int (4 : Int32)), .val (.int (0 : Int32)), .val (.int x0)] [])) st6_2 ?_
  refine own_fw (fun _ => ox_iinc X6_2.here hx (hb hby d6_32) rfl (l' := #[.val (.ref r0), .val (.int (1 : Int32)), .val (.ref r2), .val (.int (0 : Int32)), .val (.int (4 : Int32)), .val (.int (0 : Int32)), .val (.int x0)]) rfl) ?_
  refine own_fw (fun _ => ox_iinc X6_2.here hx (hb hby d6_35) rfl (l' := #[.val (.ref r0), .val (.int (1 : Int32)), .val (.ref r2), .val (.int (1 : Int32)), .val (.int (4 : Int32)), .val (.int (0 : Int32)), .val (.int x0)]) rfl) ?_
  refine own_fw (fun _ => ox_iinc X6_2.here hx (hb hby d6_38) rfl (l' := #[.val (.ref r0), .val (.int (1 : Int32)), .val (.ref r2), .val (.int (1 : Int32)), .val (.int (4 : Int32)), .val (.int (1 : Int32)), .val (.int x0)]) rfl) ?_
  refine own_fw (fun _ => ox_goto X6_2.here hx (pc0 := 41) (pc' := 3) rfl (hb hby d6_41) (by decide) (by decide)) ?_
  refine own_fw (fun _ => ox_iload X6_2.here hx (hb hby d6_3) rfl) ?_
  refine own_fw (fun _ => ox_iload X6_2.here hx (hb hby d6_5) rfl) ?_
  refine own_fw (fun _ => ox_icmpNo X6_2.here hx (hb hby d6_7) rfl (tlt (by decide : ((1 : Int32) < (4 : Int32)))).2.1) ?_
  refine own_fw (fun _ => ox_aloadN X6_2.here hx (hb hby d6_10) rfl rfl) ?_
  refine own_fw (fun _ => ox_iloadN X6_2.here hx (hb hby d6_11) rfl) ?_
  obtain ⟨cl6_3, Ar6_3, q6_3, S6_3, Ng6_3, Hs6_3, G6_3⟩ := id (V_0.other W6_2 hne)
  have hin6_3 : ¬ ((1 : Int32) < 0 ∨ cl6_3.slots.size ≤ ((1 : Int32)).toNatClampNeg) := inb_of S6_3 ⟨by decide, by decide⟩
  refine own_fw (A := T6_2.setTop (mkF m 13 #[.val (.ref r0), .val (.int (1 : Int32)), .val (.ref r2), .val (.int (1 : Int32)), .val (.int (4 : Int32)), .val (.int (1 : Int32)), .val (.int x0)] [(.int x1)])) (X6_2.caload hx (j := (1 : Int32)) (v := (.int x1)) (by rw [e6_2]; exact Ar6_3.1) (State.isArrayOf_alike hZ.alike Ar6_3.2.1) Ar6_3.2.2 hin6_3 (Has.at Hs6_3 hin6_3 rfl) (g := (mkF m 12 #[.val (.ref r0), .val (.int (1 : Int32)), .val (.ref r2), .val (.int (1 : Int32)), .val (.int (4 : Int32)), .val (.int (1 : Int32)), .val (.int x0)] [(.int (1 : Int32)), (.ref r0)])) rfl rfl (hb hby d6_12)) ?_
  refine own_fw (fun _ => ox_istore X6_2.here hx (hb hby d6_13) rfl (l' := #[.val (.ref r0), .val (.int (1 : Int32)), .val (.ref r2), .val (.int (1 : Int32)), .val (.int (4 : Int32)), .val (.int (1 : Int32)), .val (.int x1)]) rfl) ?_
  refine own_fw (fun _ => ox_iload X6_2.here hx (hb hby d6_15) rfl) ?_
  refine own_fw (fun _ => ox_sipush X6_2.here hx (hb hby d6_17)) ?_
  refine own_fw (fun _ => ox_icmpYes X6_2.here hx (pc0 := 20) (pc' := 26) rfl (hb hby d6_20) rfl (flt le_x1).2.2.2 (by decide) (by decide)) ?_
  refine own_fw (fun _ => ox_aloadN X6_2.here hx (hb hby d6_26) rfl rfl) ?_
  refine own_fw (fun _ => ox_iloadN X6_2.here hx (hb hby d6_27) rfl) ?_
  refine own_fw (fun _ => ox_iload X6_2.here hx (hb hby d6_28) rfl) ?_
  refine own_fw (fun _ => ox_i2b X6_2.here hx (hb hby d6_30) rfl) ?_
  obtain ⟨cl6_4, Ar6_4, q6_4, S6_4, Ng6_4, Hs6_4, G6_4⟩ := id V6_2
  have hin6_4 : ¬ ((1 : Int32) < 0 ∨ cl6_4.slots.size ≤ ((1 : Int32)).toNatClampNeg) := inb_of S6_4 ⟨by decide, by decide⟩
  obtain ⟨T6_4, h6_4, X6_4, e6_4, W6_4, st6_4⟩ := stB X6_2 hx hZ e6_2 Ar6_4 (j := (1 : Int32)) hin6_4 (g := (mkF m 31 #[.val (.ref r0), .val (.int (1 : Int32)), .val (.ref r2), .val (.int (1 : Int32)), .val (.int (4 : Int32)), .val (.int (1 : Int32)), .val (.int x1)] [(.int (x1.toInt8.toInt32)), (.int (1 : Int32)), (.ref r2)])) rfl rfl (hb hby d6_31)
  have V6_4 : Arv Z h6_4 r2 k .byte (4 : Int32) [(.int (nar .byte (x0.toInt8.toInt32))), (.int (nar .byte (x1.toInt8.toInt32))), (.int (0 : Int32)), (.int (0 : Int32))] (.int 0) := Arv.set Ar6_4 q6_4 S6_4 Ng6_4 Hs6_4 G6_4 (fits_nar_byte _) W6_4 1 rfl (Nat.le_of_ble_eq_true rfl)
  have N6_4 := Fr.snoc X6_4 N6_2 g_r2
  refine own_fw (A := T6_4.setTop (mkF m 32 #[.val (.ref r0), .val (.int (1 : Int32)), .val (.ref r2), .val (.int (1 : Int32)), .val (.int (4 : Int32)), .val (.int (1 : Int32)), .val (.int x1)] [])) st6_4 ?_
  refine own_fw (fun _ => ox_iinc X6_4.here hx (hb hby d6_32) rfl (l' := #[.val (.ref r0), .val (.int (2 : Int32)), .val (.ref r2), .val (.int (1 : Int32)), .val (.int (4 : Int32)), .val (.int (1 : Int32)), .val (.int x1)]) rfl) ?_
  refine own_fw (fun _ => ox_iinc X6_4.here hx (hb hby d6_35) rfl (l' := #[.val (.ref r0), .val (.int (2 : Int32)), .val (.ref r2), .val (.int (2 : Int32)), .val (.int (4 : Int32)), .val (.int (1 : Int32)), .val (.int x1)]) rfl) ?_
  refine own_fw (fun _ => ox_iinc X6_4.here hx (hb hby d6_38) rfl (l' := #[.val (.ref r0), .val (.int (2 : Int32)), .val (.ref r2), .val (.int (2 : Int32)), .val (.int (4 : Int32)), .val (.int (2 : Int32)), .val (.int x1)]) rfl) ?_
  refine own_fw (fun _ => ox_goto X6_4.here hx (pc0 := 41) (pc' := 3) rfl (hb hby d6_41) (by decide) (by decide)) ?_
  refine own_fw (fun _ => ox_iload X6_4.here hx (hb hby d6_3) rfl) ?_
  refine own_fw (fun _ => ox_iload X6_4.here hx (hb hby d6_5) rfl) ?_
  refine own_fw (fun _ => ox_icmpNo X6_4.here hx (hb hby d6_7) rfl (tlt (by decide : ((2 : Int32) < (4 : Int32)))).2.1) ?_
  refine own_fw (fun _ => ox_aloadN X6_4.here hx (hb hby d6_10) rfl rfl) ?_
  refine own_fw (fun _ => ox_iloadN X6_4.here hx (hb hby d6_11) rfl) ?_
  obtain ⟨cl6_5, Ar6_5, q6_5, S6_5, Ng6_5, Hs6_5, G6_5⟩ := id ((V_0.other W6_2 hne).other W6_4 hne)
  have hin6_5 : ¬ ((2 : Int32) < 0 ∨ cl6_5.slots.size ≤ ((2 : Int32)).toNatClampNeg) := inb_of S6_5 ⟨by decide, by decide⟩
  refine own_fw (A := T6_4.setTop (mkF m 13 #[.val (.ref r0), .val (.int (2 : Int32)), .val (.ref r2), .val (.int (2 : Int32)), .val (.int (4 : Int32)), .val (.int (2 : Int32)), .val (.int x1)] [(.int x2)])) (X6_4.caload hx (j := (2 : Int32)) (v := (.int x2)) (by rw [e6_4]; exact Ar6_5.1) (State.isArrayOf_alike hZ.alike Ar6_5.2.1) Ar6_5.2.2 hin6_5 (Has.at Hs6_5 hin6_5 rfl) (g := (mkF m 12 #[.val (.ref r0), .val (.int (2 : Int32)), .val (.ref r2), .val (.int (2 : Int32)), .val (.int (4 : Int32)), .val (.int (2 : Int32)), .val (.int x1)] [(.int (2 : Int32)), (.ref r0)])) rfl rfl (hb hby d6_12)) ?_
  refine own_fw (fun _ => ox_istore X6_4.here hx (hb hby d6_13) rfl (l' := #[.val (.ref r0), .val (.int (2 : Int32)), .val (.ref r2), .val (.int (2 : Int32)), .val (.int (4 : Int32)), .val (.int (2 : Int32)), .val (.int x2)]) rfl) ?_
  refine own_fw (fun _ => ox_iload X6_4.here hx (hb hby d6_15) rfl) ?_
  refine own_fw (fun _ => ox_sipush X6_4.here hx (hb hby d6_17)) ?_
  refine own_fw (fun _ => ox_icmpYes X6_4.here hx (pc0 := 20) (pc' := 26) rfl (hb hby d6_20) rfl (flt le_x2).2.2.2 (by decide) (by decide)) ?_
  refine own_fw (fun _ => ox_aloadN X6_4.here hx (hb hby d6_26) rfl rfl) ?_
  refine own_fw (fun _ => ox_iloadN X6_4.here hx (hb hby d6_27) rfl) ?_
  refine own_fw (fun _ => ox_iload X6_4.here hx (hb hby d6_28) rfl) ?_
  refine own_fw (fun _ => ox_i2b X6_4.here hx (hb hby d6_30) rfl) ?_
  obtain ⟨cl6_6, Ar6_6, q6_6, S6_6, Ng6_6, Hs6_6, G6_6⟩ := id V6_4
  have hin6_6 : ¬ ((2 : Int32) < 0 ∨ cl6_6.slots.size ≤ ((2 : Int32)).toNatClampNeg) := inb_of S6_6 ⟨by decide, by decide⟩
  obtain ⟨T6_6, h6_6, X6_6, e6_6, W6_6, st6_6⟩ := stB X6_4 hx hZ e6_4 Ar6_6 (j := (2 : Int32)) hin6_6 (g := (mkF m 31 #[.val (.ref r0), .val (.int (2 : Int32)), .val (.ref r2), .val (.int (2 : Int32)), .val (.int (4 : Int32)), .val (.int (2 : Int32)), .val (.int x2)] [(.int (x2.toInt8.toInt32)), (.int (2 : Int32)), (.ref r2)])) rfl rfl (hb hby d6_31)
  have V6_6 : Arv Z h6_6 r2 k .byte (4 : Int32) [(.int (nar .byte (x0.toInt8.toInt32))), (.int (nar .byte (x1.toInt8.toInt32))), (.int (nar .byte (x2.toInt8.toInt32))), (.int (0 : Int32))] (.int 0) := Arv.set Ar6_6 q6_6 S6_6 Ng6_6 Hs6_6 G6_6 (fits_nar_byte _) W6_6 2 rfl (Nat.le_of_ble_eq_true rfl)
  have N6_6 := Fr.snoc X6_6 N6_4 g_r2
  refine own_fw (A := T6_6.setTop (mkF m 32 #[.val (.ref r0), .val (.int (2 : Int32)), .val (.ref r2), .val (.int (2 : Int32)), .val (.int (4 : Int32)), .val (.int (2 : Int32)), .val (.int x2)] [])) st6_6 ?_
  refine own_fw (fun _ => ox_iinc X6_6.here hx (hb hby d6_32) rfl (l' := #[.val (.ref r0), .val (.int (3 : Int32)), .val (.ref r2), .val (.int (2 : Int32)), .val (.int (4 : Int32)), .val (.int (2 : Int32)), .val (.int x2)]) rfl) ?_
  refine own_fw (fun _ => ox_iinc X6_6.here hx (hb hby d6_35) rfl (l' := #[.val (.ref r0), .val (.int (3 : Int32)), .val (.ref r2), .val (.int (3 : Int32)), .val (.int (4 : Int32)), .val (.int (2 : Int32)), .val (.int x2)]) rfl) ?_
  refine own_fw (fun _ => ox_iinc X6_6.here hx (hb hby d6_38) rfl (l' := #[.val (.ref r0), .val (.int (3 : Int32)), .val (.ref r2), .val (.int (3 : Int32)), .val (.int (4 : Int32)), .val (.int (3 : Int32)), .val (.int x2)]) rfl) ?_
  refine own_fw (fun _ => ox_goto X6_6.here hx (pc0 := 41) (pc' := 3) rfl (hb hby d6_41) (by decide) (by decide)) ?_
  refine own_fw (fun _ => ox_iload X6_6.here hx (hb hby d6_3) rfl) ?_
  refine own_fw (fun _ => ox_iload X6_6.here hx (hb hby d6_5) rfl) ?_
  refine own_fw (fun _ => ox_icmpNo X6_6.here hx (hb hby d6_7) rfl (tlt (by decide : ((3 : Int32) < (4 : Int32)))).2.1) ?_
  refine own_fw (fun _ => ox_aloadN X6_6.here hx (hb hby d6_10) rfl rfl) ?_
  refine own_fw (fun _ => ox_iloadN X6_6.here hx (hb hby d6_11) rfl) ?_
  obtain ⟨cl6_7, Ar6_7, q6_7, S6_7, Ng6_7, Hs6_7, G6_7⟩ := id (((V_0.other W6_2 hne).other W6_4 hne).other W6_6 hne)
  have hin6_7 : ¬ ((3 : Int32) < 0 ∨ cl6_7.slots.size ≤ ((3 : Int32)).toNatClampNeg) := inb_of S6_7 ⟨by decide, by decide⟩
  refine own_fw (A := T6_6.setTop (mkF m 13 #[.val (.ref r0), .val (.int (3 : Int32)), .val (.ref r2), .val (.int (3 : Int32)), .val (.int (4 : Int32)), .val (.int (3 : Int32)), .val (.int x2)] [(.int x3)])) (X6_6.caload hx (j := (3 : Int32)) (v := (.int x3)) (by rw [e6_6]; exact Ar6_7.1) (State.isArrayOf_alike hZ.alike Ar6_7.2.1) Ar6_7.2.2 hin6_7 (Has.at Hs6_7 hin6_7 rfl) (g := (mkF m 12 #[.val (.ref r0), .val (.int (3 : Int32)), .val (.ref r2), .val (.int (3 : Int32)), .val (.int (4 : Int32)), .val (.int (3 : Int32)), .val (.int x2)] [(.int (3 : Int32)), (.ref r0)])) rfl rfl (hb hby d6_12)) ?_
  refine own_fw (fun _ => ox_istore X6_6.here hx (hb hby d6_13) rfl (l' := #[.val (.ref r0), .val (.int (3 : Int32)), .val (.ref r2), .val (.int (3 : Int32)), .val (.int (4 : Int32)), .val (.int (3 : Int32)), .val (.int x3)]) rfl) ?_
  refine own_fw (fun _ => ox_iload X6_6.here hx (hb hby d6_15) rfl) ?_
  refine own_fw (fun _ => ox_sipush X6_6.here hx (hb hby d6_17)) ?_
  refine own_fw (fun _ => ox_icmpYes X6_6.here hx (pc0 := 20) (pc' := 26) rfl (hb hby d6_20) rfl (flt le_x3).2.2.2 (by decide) (by decide)) ?_
  refine own_fw (fun _ => ox_aloadN X6_6.here hx (hb hby d6_26) rfl rfl) ?_
  refine own_fw (fun _ => ox_iloadN X6_6.here hx (hb hby d6_27) rfl) ?_
  refine own_fw (fun _ => ox_iload X6_6.here hx (hb hby d6_28) rfl) ?_
  refine own_fw (fun _ => ox_i2b X6_6.here hx (hb hby d6_30) rfl) ?_
  obtain ⟨cl6_8, Ar6_8, q6_8, S6_8, Ng6_8, Hs6_8, G6_8⟩ := id V6_6
  have hin6_8 : ¬ ((3 : Int32) < 0 ∨ cl6_8.slots.size ≤ ((3 : Int32)).toNatClampNeg) := inb_of S6_8 ⟨by decide, by decide⟩
  obtain ⟨T6_8, h6_8, X6_8, e6_8, W6_8, st6_8⟩ := stB X6_6 hx hZ e6_6 Ar6_8 (j := (3 : Int32)) hin6_8 (g := (mkF m 31 #[.val (.ref r0), .val (.int (3 : Int32)), .val (.ref r2), .val (.int (3 : Int32)), .val (.int (4 : Int32)), .val (.int (3 : Int32)), .val (.int x3)] [(.int (x3.toInt8.toInt32)), (.int (3 : Int32)), (.ref r2)])) rfl rfl (hb hby d6_31)
  have V6_8 : Arv Z h6_8 r2 k .byte (4 : Int32) [(.int (nar .byte (x0.toInt8.toInt32))), (.int (nar .byte (x1.toInt8.toInt32))), (.int (nar .byte (x2.toInt8.toInt32))), (.int (nar .byte (x3.toInt8.toInt32)))] (.int 0) := Arv.set Ar6_8 q6_8 S6_8 Ng6_8 Hs6_8 G6_8 (fits_nar_byte _) W6_8 3 rfl (Nat.le_of_ble_eq_true rfl)
  have N6_8 := Fr.snoc X6_8 N6_6 g_r2
  refine own_fw (A := T6_8.setTop (mkF m 32 #[.val (.ref r0), .val (.int (3 : Int32)), .val (.ref r2), .val (.int (3 : Int32)), .val (.int (4 : Int32)), .val (.int (3 : Int32)), .val (.int x3)] [])) st6_8 ?_
  refine own_fw (fun _ => ox_iinc X6_8.here hx (hb hby d6_32) rfl (l' := #[.val (.ref r0), .val (.int (4 : Int32)), .val (.ref r2), .val (.int (3 : Int32)), .val (.int (4 : Int32)), .val (.int (3 : Int32)), .val (.int x3)]) rfl) ?_
  refine own_fw (fun _ => ox_iinc X6_8.here hx (hb hby d6_35) rfl (l' := #[.val (.ref r0), .val (.int (4 : Int32)), .val (.ref r2), .val (.int (4 : Int32)), .val (.int (4 : Int32)), .val (.int (3 : Int32)), .val (.int x3)]) rfl) ?_
  refine own_fw (fun _ => ox_iinc X6_8.here hx (hb hby d6_38) rfl (l' := #[.val (.ref r0), .val (.int (4 : Int32)), .val (.ref r2), .val (.int (4 : Int32)), .val (.int (4 : Int32)), .val (.int (4 : Int32)), .val (.int x3)]) rfl) ?_
  refine own_fw (fun _ => ox_goto X6_8.here hx (pc0 := 41) (pc' := 3) rfl (hb hby d6_41) (by decide) (by decide)) ?_
  refine own_fw (fun _ => ox_iload X6_8.here hx (hb hby d6_3) rfl) ?_
  refine own_fw (fun _ => ox_iload X6_8.here hx (hb hby d6_5) rfl) ?_
  refine own_fw (fun _ => ox_icmpYes X6_8.here hx (pc0 := 7) (pc' := 44) rfl (hb hby d6_7) rfl (flt (Int32.lt_irrefl : ¬ ((4 : Int32) < (4 : Int32)))).2.1 (by decide) (by decide)) ?_
  refine own_fw (fun _ => ox_iload X6_8.here hx (hb hby d6_44) rfl) ?_
  exact own_leaf X6_8 (v := some (.int (4 : Int32))) (own_ret Bd.returns) (BodyLoose.notSynchronized Bd) e6_8 (⟨rfl, N6_8, (((((Keep.refl h0 [r2]).wr W6_2 (Or.inl (List.mem_of_getElem? (i := 0) rfl))).wr W6_4 (Or.inl (List.mem_of_getElem? (i := 0) rfl))).wr W6_6 (Or.inl (List.mem_of_getElem? (i := 0) rfl))).wr W6_8 (Or.inl (List.mem_of_getElem? (i := 0) rfl))), V6_8⟩) (by decide) (by decide) (fun fs hr => retI X6_8 hx Bd.returns (hb hby d6_46) hr)
theorem rmCP_4 (l : Launch) (Z : State) (a0 : Array Value) (hw : ∀ d ∈ tables_1, d.before a0 Z = true) (ws : List Jvm.Cond) (r0 : Addr) (kc : ClassId) (x0 : Int32) (x1 : Int32) (x2 : Int32) (x3 : Int32) (h0 : Heap) (n0 : Nat) (Z0 : n0 ≤ h0.size) (V_0 : Arv Z h0 r0 kc .char (4 : Int32) [(.int x0), (.int x1), (.int x2), (.int x3)] (.int 0)) (le_x0 : ¬ (255 : Int32) < x0) (le_x1 : ¬ (255 : Int32) < x1) (le_x2 : ¬ (255 : Int32) < x2) (le_x3 : ¬ (255 : Int32) < x3) : OwnC l Z mN14 (Jvm.Cond.code mN14 jdk_52_method_16_code 6 (some (.array .byte)) :: ws) ({ frames := 1, cells := 1, slots := 4, locals := 18 } : Room) #[(.ref r0), (.int (0 : Int32)), (.int (4 : Int32))] h0 (Q5 Z (4 : Int32) [(.int (nar .byte (x0.toInt8.toInt32))), (.int (nar .byte (x1.toInt8.toInt32))), (.int (nar .byte (x2.toInt8.toInt32))), (.int (nar .byte (x3.toInt8.toInt32)))] h0 n0) := by
  refine own_body (plainFor_of_name pn5) (fun m => ef5 m r0 (0 : Int32) (4 : Int32)) ?_
  intro p e s m below meth c s₁ Bd hZ hml hown e0 hx hby hnm X0
  have N0 := Fr.nil n0
  refine own_fw (fun _ => ox_iloadN X0.here hx (hb hby d5_0) rfl) ?_
  obtain ⟨T5_1, h5_1, k5_1, X5_1, e5_1, E5_1, A5_1, st5_1⟩ := newP X0 hx hZ (own_w hw 33 rfl) e0 (g := (mkF m 1 #[.val (.ref r0), .val (.int (0 : Int32)), .val (.int (4 : Int32)), .unset, .unset, .unset] [(.int (4 : Int32))])) rfl (hb hby d5_1) rfl (by decide) (cap := 4) (by decide) (by decide) (by decide) (by decide)
  obtain ⟨b5_1, g5_1⟩ : ∃ z, z = h0.size := ⟨_, rfl⟩
  rw [← g5_1] at A5_1 st5_1
  have ne_r0_b5_1 : r0 ≠ b5_1 := Nat.ne_of_lt (Nat.lt_of_lt_of_le V_0.lt (Nat.le_of_eq g5_1.symm))
  have g_b5_1 : n0 ≤ b5_1 := Nat.le_trans Z0 (Nat.le_of_eq g5_1.symm)
  have sz_b5_1 : h0.size ≤ b5_1 := Nat.le_trans (Keep.refl h0 []).1 (Nat.le_of_eq g5_1.symm)
  have V_b5_1 : Arv Z h5_1 b5_1 k5_1 .byte (4 : Int32) [(.int (0 : Int32)), (.int (0 : Int32)), (.int (0 : Int32)), (.int (0 : Int32))] (.int (0 : Int32)) := (Arv.new A5_1 (by decide)).pad (pad_rep [] (.int (0 : Int32)) 4)
  refine own_fw (A := T5_1.setTop (mkF m 3 #[.val (.ref r0), .val (.int (0 : Int32)), .val (.int (4 : Int32)), .unset, .unset, .unset] [(.ref b5_1)])) st5_1 ?_
  refine own_fw (fun _ => ox_astoreN X5_1.here hx (hb hby d5_3) rfl rfl (l' := #[.val (.ref r0), .val (.int (0 : Int32)), .val (.int (4 : Int32)), .val (.ref b5_1), .unset, .unset]) rfl) ?_
  refine own_fw (fun _ => ox_aloadN X5_1.here hx (hb hby d5_4) rfl rfl) ?_
  refine own_fw (fun _ => ox_iloadN X5_1.here hx (hb hby d5_5) rfl) ?_
  refine own_fw (fun _ => ox_aloadN X5_1.here hx (hb hby d5_6) rfl rfl) ?_
  refine own_fw (fun _ => ox_iconst X5_1.here hx (hb hby d5_7)) ?_
  refine own_fw (fun _ => ox_iloadN X5_1.here hx (hb hby d5_8) rfl) ?_
  refine own_sc X5_1 hx hZ hown (rmCQ_4 l Z a0 hw [] r0 b5_1 kc k5_1 x0 x1 x2 x3 h5_1 n0 (Nat.le_trans Z0 E5_1.1) (V_0.ext E5_1) V_b5_1 ne_r0_b5_1 g_b5_1 le_x0 le_x1 le_x2 le_x3) (own_w hw 34 rfl) (own_w hw 35 rfl) (own_w hw 36 rfl) (own_w hw 31 rfl) (by decide) hml rfl e5_1 (hb hby d5_9) rfl rfl (lenOf pd5_0 rfl) (W := 0) rfl (by decide) (by decide) (c' := 1) (s' := 4) rfl rfl (by decide) (by decide) ?_
  rintro _ T5_2 L5_2 X5_2 ⟨rfl, N5_2q, K5_2, Vb5_2⟩
  have N5_2 := Fr.app N0 N5_2q
  refine own_fw (fun _ => ox_istore X5_2.here hx (hb hby d5_12) rfl (l' := #[.val (.ref r0), .val (.int (0 : Int32)), .val (.int (4 : Int32)), .val (.ref b5_1), .val (.int (4 : Int32)), .unset]) rfl) ?_
  refine own_fw (fun _ => ox_iload X5_2.here hx (hb hby d5_14) rfl) ?_
  refine own_fw (fun _ => ox_iloadN X5_2.here hx (hb hby d5_16) rfl) ?_
  refine own_fw (fun _ => ox_icmpYes X5_2.here hx (pc0 := 17) (pc' := 57) rfl (hb hby d5_17) rfl (teq (rfl : (4 : Int32) = (4 : Int32))).1 (by decide) (by decide)) ?_
  refine own_fw (fun _ => ox_aloadN X5_2.here hx (hb hby d5_57) rfl rfl) ?_
  exact own_leaf X5_2 (v := some (.ref b5_1)) (own_ret Bd.returns) (BodyLoose.notSynchronized Bd) rfl (⟨b5_1, k5_1, rfl, N5_2, (((Keep.refl h0 []).ext E5_1).trans K5_2 (allS (Or.inr sz_b5_1) all0)), Vb5_2, sz_b5_1⟩) (by decide) (by decide) (fun fs hr => retA (ty := (.array .byte)) X5_2 hx rfl rfl Bd.returns (hb hby d5_58) hr)
theorem rmS4_4 (l : Launch) (Z : State) (a0 : Array Value) (hw : ∀ d ∈ tables_1, d.before a0 Z = true) (ws : List Jvm.Cond) (r0 : Addr) (r1 : Addr) (kc : ClassId) (x0 : Int32) (x1 : Int32) (x2 : Int32) (x3 : Int32) (cc : Int32) (fv : Value) (ra : Addr) (h0 : Heap) (n0 : Nat) (Z0 : n0 ≤ h0.size) (E : Exa Z h0 r0 "java/lang/String") (Sv : Fld Z h0 r0 "java/lang/String" "value" "[B" .null) (Sc : Fld Z h0 r0 "java/lang/String" "coder" "B" (.int 0)) (V_1 : Arv Z h0 r1 kc .char (4 : Int32) [(.int x0), (.int x1), (.int x2), (.int x3)] (.int 0)) (hne : r1 ≠ r0) (g_r0 : n0 ≤ r0) (le_x0 : ¬ (255 : Int32) < x0) (le_x1 : ¬ (255 : Int32) < x1) (le_x2 : ¬ (255 : Int32) < x2) (le_x3 : ¬ (255 : Int32) < x3) (OO : OwnOld Z n0 h0 cc fv ra) : OwnC l Z mN15 (Jvm.Cond.code mN15 jdk_42_method_149_code 6 none :: ws) ({ frames := 2, cells := 1, slots := 4, locals := 35 } : Room) #[(.ref r0), (.ref r1), (.int (0 : Int32)), (.int (4 : Int32)), .null] h0 (Q4 Z r0 (4 : Int32) [(.int (nar .byte (x0.toInt8.toInt32))), (.int (nar .byte (x1.toInt8.toInt32))), (.int (nar .byte (x2.toInt8.toInt32))), (.int (nar .byte (x3.toInt8.toInt32)))] h0 n0) := by
  refine own_body (plainFor_of_name pn4) (fun m => ef4 m r0 r1 (0 : Int32) (4 : Int32)) ?_
  intro p e s m below meth c s₁ Bd hZ hml hown e0 hx hby hnm X0
  have N0 := Fr.nil n0
  obtain ⟨O_0, S_c, hcc, S_f, hfv, S_r⟩ := OO
  refine own_fw (fun _ => ox_aloadN X0.here hx (hb hby d4_0) rfl rfl) ?_
  obtain ⟨T4_1, X4_1, e4_1, st4_1⟩ := initO X0 hx hZ hown (own_w hw 27 rfl) (own_w hw 7 rfl) (own_w hw 8 rfl) e0 (g := (mkF m 1 #[.val (.ref r0), .val (.ref r1), .val (.int (0 : Int32)), .val (.int (4 : Int32)), .val .null, .unset] [(.ref r0)])) rfl (by rw [hml]; rfl) rfl (hb hby d4_1) (by decide) (W := 0) (own_mr rfl) (by decide)
  refine own_fw (A := T4_1.setTop (mkF m 4 #[.val (.ref r0), .val (.ref r1), .val (.int (0 : Int32)), .val (.int (4 : Int32)), .val .null, .unset] [])) st4_1 ?_
  refine own_fw (fun _ => ox_iloadN X4_1.here hx (hb hby d4_4) rfl) ?_
  refine own_fw (fun _ => ox_ifYes X4_1.here hx (pc0 := 5) (pc' := 27) rfl (hb hby d4_5) rfl ((if0 _ _).trans (feq (by decide : ¬ ((4 : Int32) = (0 : Int32)))).2) (by decide) (by decide)) ?_
  obtain ⟨T4_2, X4_2, e4_2, st4_2⟩ := getS2 X4_1 hx hZ hown (host := "") (Or.inl (own_w hw 28 rfl)) Via.refl e4_1 (S_c.ext O_0.2) (g := (mkF m 27 #[.val (.ref r0), .val (.ref r1), .val (.int (0 : Int32)), .val (.int (4 : Int32)), .val .null, .unset] [])) rfl (hb hby d4_27)
  refine own_fw (A := T4_2.setTop (mkF m 30 #[.val (.ref r0), .val (.ref r1), .val (.int (0 : Int32)), .val (.int (4 : Int32)), .val .null, .unset] [(.int cc)])) st4_2 ?_
  refine own_fw (fun _ => ox_ifNo X4_2.here hx (hb hby d4_30) rfl ((if0 _ _).trans (feq hcc).1)) ?_
  refine own_fw (fun _ => ox_aloadN X4_2.here hx (hb hby d4_33) rfl rfl) ?_
  refine own_fw (fun _ => ox_iloadN X4_2.here hx (hb hby d4_34) rfl) ?_
  refine own_fw (fun _ => ox_iloadN X4_2.here hx (hb hby d4_35) rfl) ?_
  refine own_sc X4_2 hx hZ hown (rmCP_4 l Z a0 hw [] r1 kc x0 x1 x2 x3 h0 n0 Z0 V_1 le_x0 le_x1 le_x2 le_x3) (own_w hw 29 rfl) (own_w hw 30 rfl) (own_w hw 32 rfl) (own_w hw 31 rfl) (by decide) hml rfl e4_2 (hb hby d4_36) rfl rfl (lenOf pd4_0 rfl) (W := 0) rfl (by decide) (by decide) (c' := 1) (s' := 4) rfl rfl (by decide) (by decide) ?_
  rintro _ T4_3 L4_3 X4_3 ⟨bc4_3, kb4_3, rfl, N4_3q, K4_3, Vb4_3, zb4_3⟩
  have N4_3 := Fr.app N0 N4_3q
  have ne_r0_bc4_3 : r0 ≠ bc4_3 := Nat.ne_of_lt (Nat.lt_of_lt_of_le E.lt zb4_3)
  have sz_bc4_3 : h0.size ≤ bc4_3 := Nat.le_trans (Keep.refl h0 [r0]).1 zb4_3
  refine own_fw (fun _ => ox_astore X4_3.here hx (hb hby d4_39) rfl rfl (l' := #[.val (.ref r0), .val (.ref r1), .val (.int (0 : Int32)), .val (.int (4 : Int32)), .val .null, .val (.ref bc4_3)]) rfl) ?_
  refine own_fw (fun _ => ox_aloadN X4_3.here hx (hb hby d4_41) rfl rfl) ?_
  refine own_fw (fun _ => ox_aload X4_3.here hx (hb hby d4_42) rfl rfl) ?_
  refine own_fw (fun _ => ox_iloadN X4_3.here hx (hb hby d4_44) rfl) ?_
  refine own_sc X4_3 hx hZ hown (rmCF_4 l Z a0 hw [] bc4_3 kb4_3 x0 x1 x2 x3 T4_3.heap n0 (Nat.le_trans Z0 K4_3.1) Vb4_3) (own_w hw 37 rfl) (own_w hw 38 rfl) (own_w hw 39 rfl) (own_w hw 31 rfl) (by decide) hml rfl rfl (hb hby d4_45) rfl rfl (lenOf pd4_1 rfl) (W := 1) rfl (by decide) (by decide) (c' := 1) (s' := 4) rfl rfl (by decide) (by decide) ?_
  rintro _ T4_4 L4_4 X4_4 ⟨rfl, N4_4q, e4_4⟩
  have N4_4 := Fr.app N4_3 N4_4q
  obtain ⟨T4_5, h4_5, X4_5, e4_5, W4_5, st4_5⟩ := putFN X4_4 hx hZ hown (own_w hw 40 rfl) Via.refl e4_4 (Sc.keep K4_3 (fun q => nomatch q)) (E.keep K4_3) (Or.inr ⟨(own_w hw 41 rfl), rfl, hnm⟩) (own_w hw 18 rfl) (ty := .byte) (v' := (.int (nar .byte (0 : Int32)))) (by decide) rfl (fits_nar_byte _) (g := (mkF m 48 #[.val (.ref r0), .val (.ref r1), .val (.int (0 : Int32)), .val (.int (4 : Int32)), .val .null, .val (.ref bc4_3)] [(.int (0 : Int32)), (.ref r0)])) rfl rfl (hb hby d4_48)
  have Fw4_5 := (Sc.keep K4_3 (fun q => nomatch q)).same W4_5
  have N4_5 := Fr.snoc X4_5 N4_4 g_r0
  refine own_fw (A := T4_5.setTop (mkF m 51 #[.val (.ref r0), .val (.ref r1), .val (.int (0 : Int32)), .val (.int (4 : Int32)), .val .null, .val (.ref bc4_3)] [])) st4_5 ?_
  refine own_fw (fun _ => ox_aloadN X4_5.here hx (hb hby d4_51) rfl rfl) ?_
  refine own_fw (fun _ => ox_aload X4_5.here hx (hb hby d4_52) rfl rfl) ?_
  obtain ⟨T4_6, h4_6, X4_6, e4_6, W4_6, st4_6⟩ := putF X4_5 hx hZ hown (host := "") (Or.inl (own_w hw 42 rfl)) Via.refl e4_5 ((Sv.keep K4_3 (fun q => nomatch q)).other W4_5 (Or.inr (slot_ne (Or.inr (own_w hw 43 rfl)) (Or.inr (own_w hw 41 rfl)) (by decide) (t := (.array .byte)) (t' := .byte) (by decide) (by decide)))) ((E.keep K4_3).wr W4_5) (Or.inr ⟨(own_w hw 43 rfl), rfl, hnm⟩) (own_w hw 18 rfl) (ty := (.array .byte)) (by decide) rfl rfl (g := (mkF m 54 #[.val (.ref r0), .val (.ref r1), .val (.int (0 : Int32)), .val (.int (4 : Int32)), .val .null, .val (.ref bc4_3)] [(.ref bc4_3), (.ref r0)])) rfl rfl (hb hby d4_54)
  have Fw4_6 := ((Sv.keep K4_3 (fun q => nomatch q)).other W4_5 (Or.inr (slot_ne (Or.inr (own_w hw 43 rfl)) (Or.inr (own_w hw 41 rfl)) (by decide) (t := (.array .byte)) (t' := .byte) (by decide) (by decide)))).same W4_6
  have N4_6 := Fr.snoc X4_6 N4_5 g_r0
  refine own_fw (A := T4_6.setTop (mkF m 57 #[.val (.ref r0), .val (.ref r1), .val (.int (0 : Int32)), .val (.int (4 : Int32)), .val .null, .val (.ref bc4_3)] [])) st4_6 ?_
  exact own_leaf X4_6 (v := none) (fun _ => rfl) (BodyLoose.notSynchronized Bd) e4_6 (⟨bc4_3, kb4_3, rfl, N4_6, ((((Keep.refl h0 [r0]).trans K4_3 all0).wr W4_5 (Or.inl (List.mem_of_getElem? (i := 0) rfl))).wr W4_6 (Or.inl (List.mem_of_getElem? (i := 0) rfl))), (((E.keep K4_3).wr W4_5).wr W4_6), Fw4_6, own_fc (Fw4_5.other W4_6 (Or.inr (slot_ne (Or.inr (own_w hw 41 rfl)) (Or.inr (own_w hw 43 rfl)) (by decide) (t := .byte) (t' := (.array .byte)) (by decide) (by decide)))) (by decide), ((Vb4_3.other W4_5 (Ne.symm ne_r0_bc4_3)).other W4_6 (Ne.symm ne_r0_bc4_3)), sz_bc4_3⟩) (by decide) (by decide) (fun fs hr => X4_6.returnOut hx Bd.returns (hb hby d4_57) hr)
theorem rmS1_4 (l : Launch) (Z : State) (a0 : Array Value) (hw : ∀ d ∈ tables_1, d.before a0 Z = true) (ws : List Jvm.Cond) (r0 : Addr) (r1 : Addr) (kc : ClassId) (x0 : Int32) (x1 : Int32) (x2 : Int32) (x3 : Int32) (cc : Int32) (fv : Value) (ra : Addr) (h0 : Heap) (n0 : Nat) (Z0 : n0 ≤ h0.size) (E : Exa Z h0 r0 "java/lang/String") (Sv : Fld Z h0 r0 "java/lang/String" "value" "[B" .null) (Sc : Fld Z h0 r0 "java/lang/String" "coder" "B" (.int 0)) (V_1 : Arv Z h0 r1 kc .char (4 : Int32) [(.int x0), (.int x1), (.int x2), (.int x3)] (.int 0)) (hne : r1 ≠ r0) (g_r0 : n0 ≤ r0) (le_x0 : ¬ (255 : Int32) < x0) (le_x1 : ¬ (255 : Int32) < x1) (le_x2 : ¬ (255 : Int32) < x2) (le_x3 : ¬ (255 : Int32) < x3) (OO : OwnOld Z n0 h0 cc fv ra) : OwnC l Z mN16 (Jvm.Cond.code mN16 jdk_42_method_3_code 2 none :: ws) ({ frames := 3, cells := 1, slots := 4, locals := 52 } : Room) #[(.ref r0), (.ref r1)] h0 (Q3 Z r0 (4 : Int32) [(.int (nar .byte (x0.toInt8.toInt32))), (.int (nar .byte (x1.toInt8.toInt32))), (.int (nar .byte (x2.toInt8.toInt32))), (.int (nar .byte (x3.toInt8.toInt32)))] h0 n0) := by
  refine own_body (plainFor_of_name pn3) (fun m => ef3 m r0 r1) ?_
  intro p e s m below meth c s₁ Bd hZ hml hown e0 hx hby hnm X0
  have N0 := Fr.nil n0
  obtain ⟨O_0, S_c, hcc, S_f, hfv, S_r⟩ := OO
  refine own_fw (fun _ => ox_aloadN X0.here hx (hb hby d3_0) rfl rfl) ?_
  refine own_fw (fun _ => ox_aloadN X0.here hx (hb hby d3_1) rfl rfl) ?_
  refine own_fw (fun _ => ox_iconst X0.here hx (hb hby d3_2)) ?_
  refine own_fw (fun _ => ox_aloadN X0.here hx (hb hby d3_3) rfl rfl) ?_
  obtain ⟨cl3_1, Ar3_1, q3_1, S3_1, Ng3_1, Hs3_1, G3_1⟩ := id V_1
  have st3_1 := X0.arraylength hx (by rw [e0]; exact Ar3_1.1) (State.isArrayOf_alike hZ.alike Ar3_1.2.1) (g := (mkF m 4 #[.val (.ref r0), .val (.ref r1)] [(.ref r1), (.int (0 : Int32)), (.ref r1), (.ref r0)])) rfl rfl (hb hby d3_4)
  rw [len_of S3_1 Ng3_1] at st3_1
  refine own_fw (A := s₁.setTop (mkF m 5 #[.val (.ref r0), .val (.ref r1)] [(.int (4 : Int32)), (.int (0 : Int32)), (.ref r1), (.ref r0)])) st3_1 ?_
  refine own_fw (fun _ => ox_aconstNull X0.here hx (hb hby d3_5)) ?_
  refine own_ic X0 hx hZ hown (rmS4_4 l Z a0 hw [] r0 r1 kc x0 x1 x2 x3 cc fv ra h0 n0 Z0 E Sv Sc V_1 hne g_r0 le_x0 le_x1 le_x2 le_x3 ⟨O_0, S_c, hcc, S_f, hfv, S_r⟩) (own_w hw 23 rfl) (own_w hw 24 rfl) (own_w hw 26 rfl) (own_w hw 19 rfl) rfl (by decide) hml rfl e0 (hb hby d3_6) rfl rfl (lenOf pd3_0 rfl) (W := 0) rfl (by decide) (by decide) (c' := 1) (s' := 4) rfl rfl (by decide) (by decide) ?_
  rintro _ T3_2 L3_2 X3_2 ⟨bc3_2, kb3_2, rfl, N3_2q, K3_2, E3_2, Sv3_2, Sc3_2, Vb3_2, zb3_2⟩
  have N3_2 := Fr.app N0 N3_2q
  have sz_bc3_2 : h0.size ≤ bc3_2 := Nat.le_trans (Keep.refl h0 [r0]).1 zb3_2
  exact own_leaf X3_2 (v := none) (fun _ => rfl) (BodyLoose.notSynchronized Bd) rfl (⟨bc3_2, kb3_2, rfl, N3_2, ((Keep.refl h0 [r0]).trans K3_2 (allS (Or.inl (List.mem_of_getElem? (i := 0) rfl)) all0)), E3_2, Sv3_2, Sc3_2, Vb3_2, sz_bc3_2⟩) (by decide) (by decide) (fun fs hr => X3_2.returnOut hx Bd.returns (hb hby d3_9) hr)
theorem rmCF_5 (l : Launch) (Z : State) (a0 : Array Value) (hw : ∀ d ∈ tables_1, d.before a0 Z = true) (ws : List Jvm.Cond) (r0 : Addr) (k : ClassId) (x0 : Int32) (x1 : Int32) (x2 : Int32) (x3 : Int32) (x4 : Int32) (h0 : Heap) (n0 : Nat) (Z0 : n0 ≤ h0.size) (V_0 : Arv Z h0 r0 k .byte (5 : Int32) [(.int (nar .byte (x0.toInt8.toInt32))), (.int (nar .byte (x1.toInt8.toInt32))), (.int (nar .byte (x2.toInt8.toInt32))), (.int (nar .byte (x3.toInt8.toInt32))), (.int (nar .byte (x4.toInt8.toInt32)))] (.int 0)) : OwnC l Z mN12 (Jvm.Cond.code mN12 jdk_52_method_15_code 2 (some .byte) :: ws) ({ frames := 0, cells := 0, slots := 0, locals := 0 } : Room) #[(.ref r0), (.int (5 : Int32))] h0 (Q7 Z (0 : Int32) h0 n0) := by
  refine own_body (plainFor_of_name pn7) (fun m => ef7 m r0 (5 : Int32)) ?_
  intro p e s m below meth c s₁ Bd hZ hml hown e0 hx hby hnm X0
  have N0 := Fr.nil n0
  refine own_fw (fun _ => ox_iloadN X0.here hx (hb hby d7_0) rfl) ?_
  refine own_fw (fun _ => ox_aloadN X0.here hx (hb hby d7_1) rfl rfl) ?_
  obtain ⟨cl7_1, Ar7_1, q7_1, S7_1, Ng7_1, Hs7_1, G7_1⟩ := id V_0
  have st7_1 := X0.arraylength hx (by rw [e0]; exact Ar7_1.1) (State.isArrayOf_alike hZ.alike Ar7_1.2.1) (g := (mkF m 2 #[.val (.ref r0), .val (.int (5 : Int32))] [(.ref r0), (.int (5 : Int32))])) rfl rfl (hb hby d7_2)
  rw [len_of S7_1 Ng7_1] at st7_1
  refine own_fw (A := s₁.setTop (mkF m 3 #[.val (.ref r0), .val (.int (5 : Int32))] [(.int (5 : Int32)), (.int (5 : Int32))])) st7_1 ?_
  refine own_fw (fun _ => ox_isub X0.here hx (hb hby d7_3) rfl) ?_
  refine own_fw (fun _ => ox_bipush X0.here hx (hb hby d7_4)) ?_
  refine own_fw (fun _ => ox_iushr X0.here hx (hb hby d7_6) rfl) ?_
  refine own_fw (fun _ => ox_i2b X0.here hx (hb hby d7_7) rfl) ?_
  exact own_leaf X0 (v := some (.int (nar .byte ((0 : Int32).toInt8.toInt32)))) (own_ret Bd.returns) (BodyLoose.notSynchronized Bd) e0 (⟨congrArg (fun z => some (Value.int z)) (by decide), N0, rfl⟩) (by decide) (by decide) (fun fs hr => retN X0 hx (t := .byte) Bd.returns (by simp) (hb hby d7_8) hr)
theorem rmCQ_5 (l : Launch) (Z : State) (a0 : Array Value) (hw : ∀ d ∈ tables_1, d.before a0 Z = true) (ws : List Jvm.Cond) (r0 : Addr) (r2 : Addr) (kc : ClassId) (k : ClassId) (x0 : Int32) (x1 : Int32) (x2 : Int32) (x3 : Int32) (x4 : Int32) (h0 : Heap) (n0 : Nat) (Z0 : n0 ≤ h0.size) (V_0 : Arv Z h0 r0 kc .char (5 : Int32) [(.int x0), (.int x1), (.int x2), (.int x3), (.int x4)] (.int 0)) (V_2 : Arv Z h0 r2 k .byte (5 : Int32) [(.int 0), (.int 0), (.int 0), (.int 0), (.int 0)] (.int 0)) (hne : r0 ≠ r2) (g_r2 : n0 ≤ r2) (le_x0 : ¬ (255 : Int32) < x0) (le_x1 : ¬ (255 : Int32) < x1) (le_x2 : ¬ (255 : Int32) < x2) (le_x3 : ¬ (255 : Int32) < x3) (le_x4 : ¬ (255 : Int32) < x4) : OwnC l Z mN13 (Jvm.Cond.code mN13 jdk_52_method_21_code 7 (some .int) :: ws) ({ frames := 0, cells := 0, slots := 0, locals := 0 } : Room) #[(.ref r0), (.int (0 : Int32)), (.ref r2), (.int (0 : Int32)), (.int (5 : Int32))] h0 (Q6 Z r2 k (5 : Int32) [(.int (nar .byte (x0.toInt8.toInt32))), (.int (nar .byte (x1.toInt8.toInt32))), (.int (nar .byte (x2.toInt8.toInt32))), (.int (nar .byte (x3.toInt8.toInt32))), (.int (nar .byte (x4.toInt8.toInt32)))] h0 n0) := by
  refine own_body (plainFor_of_name pn6) (fun m => ef6 m r0 (0 : Int32) r2 (0 : Int32) (5 : Int32)) ?_
  intro p e s m below meth c s₁ Bd hZ hml hown e0 hx hby hnm X0
  have N0 := Fr.nil n0
  refine own_fw (fun _ => ox_iconst X0.here hx (hb hby d6_0)) ?_
  refine own_fw (fun _ => ox_istore X0.here hx (hb hby d6_1) rfl (l' := #[.val (.ref r0), .val (.int (0 : Int32)), .val (.ref r2), .val (.int (0 : Int32)), .val (.int (5 : Int32)), .val (.int (0 : Int32)), .unset]) rfl) ?_
  refine own_fw (fun _ => ox_iload X0.here hx (hb hby d6_3) rfl) ?_
  refine own_fw (fun _ => ox_iload X0.here hx (hb hby d6_5) rfl) ?_
  refine own_fw (fun _ => ox_icmpNo X0.here hx (hb hby d6_7) rfl (tlt (by decide : ((0 : Int32) < (5 : Int32)))).2.1) ?_
  refine own_fw (fun _ => ox_aloadN X0.here hx (hb hby d6_10) rfl rfl) ?_
  refine own_fw (fun _ => ox_iloadN X0.here hx (hb hby d6_11) rfl) ?_
  obtain ⟨cl6_1, Ar6_1, q6_1, S6_1, Ng6_1, Hs6_1, G6_1⟩ := id V_0
  have hin6_1 : ¬ ((0 : Int32) < 0 ∨ cl6_1.slots.size ≤ ((0 : Int32)).toNatClampNeg) := inb_of S6_1 ⟨by decide, by decide⟩
  refine own_fw (A := s₁.setTop (mkF m 13 #[.val (.ref r0), .val (.int (0 : Int32)), .val (.ref r2), .val (.int (0 : Int32)), .val (.int (5 : Int32)), .val (.int (0 : Int32)), .unset] [(.int x0)])) (X0.caload hx (j := (0 : Int32)) (v := (.int x0)) (by rw [e0]; exact Ar6_1.1) (State.isArrayOf_alike hZ.alike Ar6_1.2.1) Ar6_1.2.2 hin6_1 (Has.at Hs6_1 hin6_1 rfl) (g := (mkF m 12 #[.val (.ref r0), .val (.int (0 : Int32)), .val (.ref r2), .val (.int (0 : Int32)), .val (.int (5 : Int32)), .val (.int (0 : Int32)), .unset] [(.int (0 : Int32)), (.ref r0)])) rfl rfl (hb hby d6_12)) ?_
  refine own_fw (fun _ => ox_istore X0.here hx (hb hby d6_13) rfl (l' := #[.val (.ref r0), .val (.int (0 : Int32)), .val (.ref r2), .val (.int (0 : Int32)), .val (.int (5 : Int32)), .val (.int (0 : Int32)), .val (.int x0)]) rfl) ?_
  refine own_fw (fun _ => ox_iload X0.here hx (hb hby d6_15) rfl) ?_
  refine own_fw (fun _ => ox_sipush X0.here hx (hb hby d6_17)) ?_
  refine own_fw (fun _ => ox_icmpYes X0.here hx (pc0 := 20) (pc' := 26) rfl (hb hby d6_20) rfl (flt le_x0).2.2.2 (by decide) (by decide)) ?_
  refine own_fw (fun _ => ox_aloadN X0.here hx (hb hby d6_26) rfl rfl) ?_
  refine own_fw (fun _ => ox_iloadN X0.here hx (hb hby d6_27) rfl) ?_
  refine own_fw (fun _ => ox_iload X0.here hx (hb hby d6_28) rfl) ?_
  refine own_fw (fun _ => ox_i2b X0.here hx (hb hby d6_30) rfl) ?_
  obtain ⟨cl6_2, Ar6_2, q6_2, S6_2, Ng6_2, Hs6_2, G6_2⟩ := id V_2
  have hin6_2 : ¬ ((0 : Int32) < 0 ∨ cl6_2.slots.size ≤ ((0 : Int32)).toNatClampNeg) := inb_of S6_2 ⟨by decide, by decide⟩
  obtain ⟨T6_2, h6_2, X6_2, e6_2, W6_2, st6_2⟩ := stB X0 hx hZ e0 Ar6_2 (j := (0 : Int32)) hin6_2 (g := (mkF m 31 #[.val (.ref r0), .val (.int (0 : Int32)), .val (.ref r2), .val (.int (0 : Int32)), .val (.int (5 : Int32)), .val (.int (0 : Int32)), .val (.int x0)] [(.int (x0.toInt8.toInt32)), (.int (0 : Int32)), (.ref r2)])) rfl rfl (hb hby d6_31)
  have V6_2 : Arv Z h6_2 r2 k .byte (5 : Int32) [(.int (nar .byte (x0.toInt8.toInt32))), (.int (0 : Int32)), (.int (0 : Int32)), (.int (0 : Int32)), (.int (0 : Int32))] (.int 0) := Arv.set Ar6_2 q6_2 S6_2 Ng6_2 Hs6_2 G6_2 (fits_nar_byte _) W6_2 0 rfl (Nat.le_of_ble_eq_true rfl)
  have N6_2 := Fr.snoc X6_2 N0 g_r2
  refine own_fw (A := T6_2.setTop (mkF m 32 #[.val (.ref r0), .val (.int (0 : Int32)), .val (.ref r2), .val (.int (0 : Int32)), .val (.int (5 : Int32)), .val (.int (0 : Int32)), .val (.int x0)] [])) st6_2 ?_
  refine own_fw (fun _ => ox_iinc X6_2.here hx (hb hby d6_32) rfl (l' := #[.val (.ref r0), .val (.int (1 : Int32)), .val (.ref r2), .val (.int (0 : Int32)), .val (.int (5 : Int32)), .val (.int (0 : Int32)), .val (.int x0)]) rfl) ?_
  refine own_fw (fun _ => ox_iinc X6_2.here hx (hb hby d6_35) rfl (l' := #[.val (.ref r0), .val (.int (1 : Int32)), .val (.ref r2), .val (.int (1 : Int32)), .val (.int (5 : Int32)), .val (.int (0 : Int32)), .val (.int x0)]) rfl) ?_
  refine own_fw (fun _ => ox_iinc X6_2.here hx (hb hby d6_38) rfl (l' := #[.val (.ref r0), .val (.int (1 : Int32)), .val (.ref r2), .val (.int (1 : Int32)), .val (.int (5 : Int32)), .val (.int (1 : Int32)), .val (.int x0)]) rfl) ?_
  refine own_fw (fun _ => ox_goto X6_2.here hx (pc0 := 41) (pc' := 3) rfl (hb hby d6_41) (by decide) (by decide)) ?_
  refine own_fw (fun _ => ox_iload X6_2.here hx (hb hby d6_3) rfl) ?_
  refine own_fw (fun _ => ox_iload X6_2.here hx (hb hby d6_5) rfl) ?_
  refine own_fw (fun _ => ox_icmpNo X6_2.here hx (hb hby d6_7) rfl (tlt (by decide : ((1 : Int32) < (5 : Int32)))).2.1) ?_
  refine own_fw (fun _ => ox_aloadN X6_2.here hx (hb hby d6_10) rfl rfl) ?_
  refine own_fw (fun _ => ox_iloadN X6_2.here hx (hb hby d6_11) rfl) ?_
  obtain ⟨cl6_3, Ar6_3, q6_3, S6_3, Ng6_3, Hs6_3, G6_3⟩ := id (V_0.other W6_2 hne)
  have hin6_3 : ¬ ((1 : Int32) < 0 ∨ cl6_3.slots.size ≤ ((1 : Int32)).toNatClampNeg) := inb_of S6_3 ⟨by decide, by decide⟩
  refine own_fw (A := T6_2.setTop (mkF m 13 #[.val (.ref r0), .val (.int (1 : Int32)), .val (.ref r2), .val (.int (1 : Int32)), .val (.int (5 : Int32)), .val (.int (1 : Int32)), .val (.int x0)] [(.int x1)])) (X6_2.caload hx (j := (1 : Int32)) (v := (.int x1)) (by rw [e6_2]; exact Ar6_3.1) (State.isArrayOf_alike hZ.alike Ar6_3.2.1) Ar6_3.2.2 hin6_3 (Has.at Hs6_3 hin6_3 rfl) (g := (mkF m 12 #[.val (.ref r0), .val (.int (1 : Int32)), .val (.ref r2), .val (.int (1 : Int32)), .val (.int (5 : Int32)), .val (.int (1 : Int32)), .val (.int x0)] [(.int (1 : Int32)), (.ref r0)])) rfl rfl (hb hby d6_12)) ?_
  refine own_fw (fun _ => ox_istore X6_2.here hx (hb hby d6_13) rfl (l' := #[.val (.ref r0), .val (.int (1 : Int32)), .val (.ref r2), .val (.int (1 : Int32)), .val (.int (5 : Int32)), .val (.int (1 : Int32)), .val (.int x1)]) rfl) ?_
  refine own_fw (fun _ => ox_iload X6_2.here hx (hb hby d6_15) rfl) ?_
  refine own_fw (fun _ => ox_sipush X6_2.here hx (hb hby d6_17)) ?_
  refine own_fw (fun _ => ox_icmpYes X6_2.here hx (pc0 := 20) (pc' := 26) rfl (hb hby d6_20) rfl (flt le_x1).2.2.2 (by decide) (by decide)) ?_
  refine own_fw (fun _ => ox_aloadN X6_2.here hx (hb hby d6_26) rfl rfl) ?_
  refine own_fw (fun _ => ox_iloadN X6_2.here hx (hb hby d6_27) rfl) ?_
  refine own_fw (fun _ => ox_iload X6_2.here hx (hb hby d6_28) rfl) ?_
  refine own_fw (fun _ => ox_i2b X6_2.here hx (hb hby d6_30) rfl) ?_
  obtain ⟨cl6_4, Ar6_4, q6_4, S6_4, Ng6_4, Hs6_4, G6_4⟩ := id V6_2
  have hin6_4 : ¬ ((1 : Int32) < 0 ∨ cl6_4.slots.size ≤ ((1 : Int32)).toNatClampNeg) := inb_of S6_4 ⟨by decide, by decide⟩
  obtain ⟨T6_4, h6_4, X6_4, e6_4, W6_4, st6_4⟩ := stB X6_2 hx hZ e6_2 Ar6_4 (j := (1 : Int32)) hin6_4 (g := (mkF m 31 #[.val (.ref r0), .val (.int (1 : Int32)), .val (.ref r2), .val (.int (1 : Int32)), .val (.int (5 : Int32)), .val (.int (1 : Int32)), .val (.int x1)] [(.int (x1.toInt8.toInt32)), (.int (1 : Int32)), (.ref r2)])) rfl rfl (hb hby d6_31)
  have V6_4 : Arv Z h6_4 r2 k .byte (5 : Int32) [(.int (nar .byte (x0.toInt8.toInt32))), (.int (nar .byte (x1.toInt8.toInt32))), (.int (0 : Int32)), (.int (0 : Int32)), (.int (0 : Int32))] (.int 0) := Arv.set Ar6_4 q6_4 S6_4 Ng6_4 Hs6_4 G6_4 (fits_nar_byte _) W6_4 1 rfl (Nat.le_of_ble_eq_true rfl)
  have N6_4 := Fr.snoc X6_4 N6_2 g_r2
  refine own_fw (A := T6_4.setTop (mkF m 32 #[.val (.ref r0), .val (.int (1 : Int32)), .val (.ref r2), .val (.int (1 : Int32)), .val (.int (5 : Int32)), .val (.int (1 : Int32)), .val (.int x1)] [])) st6_4 ?_
  refine own_fw (fun _ => ox_iinc X6_4.here hx (hb hby d6_32) rfl (l' := #[.val (.ref r0), .val (.int (2 : Int32)), .val (.ref r2), .val (.int (1 : Int32)), .val (.int (5 : Int32)), .val (.int (1 : Int32)), .val (.int x1)]) rfl) ?_
  refine own_fw (fun _ => ox_iinc X6_4.here hx (hb hby d6_35) rfl (l' := #[.val (.ref r0), .val (.int (2 : Int32)), .val (.ref r2), .val (.int (2 : Int32)), .val (.int (5 : Int32)), .val (.int (1 : Int32)), .val (.int x1)]) rfl) ?_
  refine own_fw (fun _ => ox_iinc X6_4.here hx (hb hby d6_38) rfl (l' := #[.val (.ref r0), .val (.int (2 : Int32)), .val (.ref r2), .val (.int (2 : Int32)), .val (.int (5 : Int32)), .val (.int (2 : Int32)), .val (.int x1)]) rfl) ?_
  refine own_fw (fun _ => ox_goto X6_4.here hx (pc0 := 41) (pc' := 3) rfl (hb hby d6_41) (by decide) (by decide)) ?_
  refine own_fw (fun _ => ox_iload X6_4.here hx (hb hby d6_3) rfl) ?_
  refine own_fw (fun _ => ox_iload X6_4.here hx (hb hby d6_5) rfl) ?_
  refine own_fw (fun _ => ox_icmpNo X6_4.here hx (hb hby d6_7) rfl (tlt (by decide : ((2 : Int32) < (5 : Int32)))).2.1) ?_
  refine own_fw (fun _ => ox_aloadN X6_4.here hx (hb hby d6_10) rfl rfl) ?_
  refine own_fw (fun _ => ox_iloadN X6_4.here hx (hb hby d6_11) rfl) ?_
  obtain ⟨cl6_5, Ar6_5, q6_5, S6_5, Ng6_5, Hs6_5, G6_5⟩ := id ((V_0.other W6_2 hne).other W6_4 hne)
  have hin6_5 : ¬ ((2 : Int32) < 0 ∨ cl6_5.slots.size ≤ ((2 : Int32)).toNatClampNeg) := inb_of S6_5 ⟨by decide, by decide⟩
  refine own_fw (A := T6_4.setTop (mkF m 13 #[.val (.ref r0), .val (.int (2 : Int32)), .val (.ref r2), .val (.int (2 : Int32)), .val (.int (5 : Int32)), .val (.int (2 : Int32)), .val (.int x1)] [(.int x2)])) (X6_4.caload hx (j := (2 : Int32)) (v := (.int x2)) (by rw [e6_4]; exact Ar6_5.1) (State.isArrayOf_alike hZ.alike Ar6_5.2.1) Ar6_5.2.2 hin6_5 (Has.at Hs6_5 hin6_5 rfl) (g := (mkF m 12 #[.val (.ref r0), .val (.int (2 : Int32)), .val (.ref r2), .val (.int (2 : Int32)), .val (.int (5 : Int32)), .val (.int (2 : Int32)), .val (.int x1)] [(.int (2 : Int32)), (.ref r0)])) rfl rfl (hb hby d6_12)) ?_
  refine own_fw (fun _ => ox_istore X6_4.here hx (hb hby d6_13) rfl (l' := #[.val (.ref r0), .val (.int (2 : Int32)), .val (.ref r2), .val (.int (2 : Int32)), .val (.int (5 : Int32)), .val (.int (2 : Int32)), .val (.int x2)]) rfl) ?_
  refine own_fw (fun _ => ox_iload X6_4.here hx (hb hby d6_15) rfl) ?_
  refine own_fw (fun _ => ox_sipush X6_4.here hx (hb hby d6_17)) ?_
  refine own_fw (fun _ => ox_icmpYes X6_4.here hx (pc0 := 20) (pc' := 26) rfl (hb hby d6_20) rfl (flt le_x2).2.2.2 (by decide) (by decide)) ?_
  refine own_fw (fun _ => ox_aloadN X6_4.here hx (hb hby d6_26) rfl rfl) ?_
  refine own_fw (fun _ => ox_iloadN X6_4.here hx (hb hby d6_27) rfl) ?_
  refine own_fw (fun _ => ox_iload X6_4.here hx (hb hby d6_28) rfl) ?_
  refine own_fw (fun _ => ox_i2b X6_4.here hx (hb hby d6_30) rfl) ?_
  obtain ⟨cl6_6, Ar6_6, q6_6, S6_6, Ng6_6, Hs6_6, G6_6⟩ := id V6_4
  have hin6_6 : ¬ ((2 : Int32) < 0 ∨ cl6_6.slots.size ≤ ((2 : Int32)).toNatClampNeg) := inb_of S6_6 ⟨by decide, by decide⟩
  obtain ⟨T6_6, h6_6, X6_6, e6_6, W6_6, st6_6⟩ := stB X6_4 hx hZ e6_4 Ar6_6 (j := (2 : Int32)) hin6_6 (g := (mkF m 31 #[.val (.ref r0), .val (.int (2 : Int32)), .val (.ref r2), .val (.int (2 : Int32)), .val (.int (5 : Int32)), .val (.int (2 : Int32)), .val (.int x2)] [(.int (x2.toInt8.toInt32)), (.int (2 : Int32)), (.ref r2)])) rfl rfl (hb hby d6_31)
  have V6_6 : Arv Z h6_6 r2 k .byte (5 : Int32) [(.int (nar .byte (x0.toInt8.toInt32))), (.int (nar .byte (x1.toInt8.toInt32))), (.int (nar .byte (x2.toInt8.toInt32))), (.int (0 : Int32)), (.int (0 : Int32))] (.int 0) := Arv.set Ar6_6 q6_6 S6_6 Ng6_6 Hs6_6 G6_6 (fits_nar_byte _) W6_6 2 rfl (Nat.le_of_ble_eq_true rfl)
  have N6_6 := Fr.snoc X6_6 N6_4 g_r2
  refine own_fw (A := T6_6.setTop (mkF m 32 #[.val (.ref r0), .val (.int (2 : Int32)), .val (.ref r2), .val (.int (2 : Int32)), .val (.int (5 : Int32)), .val (.int (2 : Int32)), .val (.int x2)] [])) st6_6 ?_
  refine own_fw (fun _ => ox_iinc X6_6.here hx (hb hby d6_32) rfl (l' := #[.val (.ref r0), .val (.int (3 : Int32)), .val (.ref r2), .val (.int (2 : Int32)), .val (.int (5 : Int32)), .val (.int (2 : Int32)), .val (.int x2)]) rfl) ?_
  refine own_fw (fun _ => ox_iinc X6_6.here hx (hb hby d6_35) rfl (l' := #[.val (.ref r0), .val (.int (3 : Int32)), .val (.ref r2), .val (.int (3 : Int32)), .val (.int (5 : Int32)), .val (.int (2 : Int32)), .val (.int x2)]) rfl) ?_
  refine own_fw (fun _ => ox_iinc X6_6.here hx (hb hby d6_38) rfl (l' := #[.val (.ref r0), .val (.int (3 : Int32)), .val (.ref r2), .val (.int (3 : Int32)), .val (.int (5 : Int32)), .val (.int (3 : Int32)), .val (.int x2)]) rfl) ?_
  refine own_fw (fun _ => ox_goto X6_6.here hx (pc0 := 41) (pc' := 3) rfl (hb hby d6_41) (by decide) (by decide)) ?_
  refine own_fw (fun _ => ox_iload X6_6.here hx (hb hby d6_3) rfl) ?_
  refine own_fw (fun _ => ox_iload X6_6.here hx (hb hby d6_5) rfl) ?_
  refine own_fw (fun _ => ox_icmpNo X6_6.here hx (hb hby d6_7) rfl (tlt (by decide : ((3 : Int32) < (5 : Int32)))).2.1) ?_
  refine own_fw (fun _ => ox_aloadN X6_6.here hx (hb hby d6_10) rfl rfl) ?_
  refine own_fw (fun _ => ox_iloadN X6_6.here hx (hb hby d6_11) rfl) ?_
  obtain ⟨cl6_7, Ar6_7, q6_7, S6_7, Ng6_7, Hs6_7, G6_7⟩ := id (((V_0.other W6_2 hne).other W6_4 hne).other W6_6 hne)
  have hin6_7 : ¬ ((3 : Int32) < 0 ∨ cl6_7.slots.size ≤ ((3 : Int32)).toNatClampNeg) := inb_of S6_7 ⟨by decide, by decide⟩
  refine own_fw (A := T6_6.setTop (mkF m 13 #[.val (.ref r0), .val (.int (3 : Int32)), .val (.ref r2), .val (.int (3 : Int32)), .val (.int (5 : Int32)), .val (.int (3 : Int32)), .val (.int x2)] [(.int x3)])) (X6_6.caload hx (j := (3 : Int32)) (v := (.int x3)) (by rw [e6_6]; exact Ar6_7.1) (State.isArrayOf_alike hZ.alike Ar6_7.2.1) Ar6_7.2.2 hin6_7 (Has.at Hs6_7 hin6_7 rfl) (g := (mkF m 12 #[.val (.ref r0), .val (.int (3 : Int32)), .val (.ref r2), .val (.int (3 : Int32)), .val (.int (5 : Int32)), .val (.int (3 : Int32)), .val (.int x2)] [(.int (3 : Int32)), (.ref r0)])) rfl rfl (hb hby d6_12)) ?_
  refine own_fw (fun _ => ox_istore X6_6.here hx (hb hby d6_13) rfl (l' := #[.val (.ref r0), .val (.int (3 : Int32)), .val (.ref r2), .val (.int (3 : Int32)), .val (.int (5 : Int32)), .val (.int (3 : Int32)), .val (.int x3)]) rfl) ?_
  refine own_fw (fun _ => ox_iload X6_6.here hx (hb hby d6_15) rfl) ?_
  refine own_fw (fun _ => ox_sipush X6_6.here hx (hb hby d6_17)) ?_
  refine own_fw (fun _ => ox_icmpYes X6_6.here hx (pc0 := 20) (pc' := 26) rfl (hb hby d6_20) rfl (flt le_x3).2.2.2 (by decide) (by decide)) ?_
  refine own_fw (fun _ => ox_aloadN X6_6.here hx (hb hby d6_26) rfl rfl) ?_
  refine own_fw (fun _ => ox_iloadN X6_6.here hx (hb hby d6_27) rfl) ?_
  refine own_fw (fun _ => ox_iload X6_6.here hx (hb hby d6_28) rfl) ?_
  refine own_fw (fun _ => ox_i2b X6_6.here hx (hb hby d6_30) rfl) ?_
  obtain ⟨cl6_8, Ar6_8, q6_8, S6_8, Ng6_8, Hs6_8, G6_8⟩ := id V6_6
  have hin6_8 : ¬ ((3 : Int32) < 0 ∨ cl6_8.slots.size ≤ ((3 : Int32)).toNatClampNeg) := inb_of S6_8 ⟨by decide, by decide⟩
  obtain ⟨T6_8, h6_8, X6_8, e6_8, W6_8, st6_8⟩ := stB X6_6 hx hZ e6_6 Ar6_8 (j := (3 : Int32)) hin6_8 (g := (mkF m 31 #[.val (.ref r0), .val (.int (3 : Int32)), .val (.ref r2), .val (.int (3 : Int32)), .val (.int (5 : Int32)), .val (.int (3 : Int32)), .val (.int x3)] [(.int (x3.toInt8.toInt32)), (.int (3 : Int32)), (.ref r2)])) rfl rfl (hb hby d6_31)
  have V6_8 : Arv Z h6_8 r2 k .byte (5 : Int32) [(.int (nar .byte (x0.toInt8.toInt32))), (.int (nar .byte (x1.toInt8.toInt32))), (.int (nar .byte (x2.toInt8.toInt32))), (.int (nar .byte (x3.toInt8.toInt32))), (.int (0 : Int32))] (.int 0) := Arv.set Ar6_8 q6_8 S6_8 Ng6_8 Hs6_8 G6_8 (fits_nar_byte _) W6_8 3 rfl (Nat.le_of_ble_eq_true rfl)
  have N6_8 := Fr.snoc X6_8 N6_6 g_r2
  refine own_fw (A := T6_8.setTop (mkF m 32 #[.val (.ref r0), .val (.int (3 : Int32)), .val (.ref r2), .val (.int (3 : Int32)), .val (.int (5 : Int32)), .val (.int (3 : Int32)), .val (.int x3)] [])) st6_8 ?_
  refine own_fw (fun _ => ox_iinc X6_8.here hx (hb hby d6_32) rfl (l' := #[.val (.ref r0), .val (.int (4 : Int32)), .val (.ref r2), .val (.int (3 : Int32)), .val (.int (5 : Int32)), .val (.int (3 : Int32)), .val (.int x3)]) rfl) ?_
  refine own_fw (fun _ => ox_iinc X6_8.here hx (hb hby d6_35) rfl (l' := #[.val (.ref r0), .val (.int (4 : Int32)), .val (.ref r2), .val (.int (4 : Int32)), .val (.int (5 : Int32)), .val (.int (3 : Int32)), .val (.int x3)]) rfl) ?_
  refine own_fw (fun _ => ox_iinc X6_8.here hx (hb hby d6_38) rfl (l' := #[.val (.ref r0), .val (.int (4 : Int32)), .val (.ref r2), .val (.int (4 : Int32)), .val (.int (5 : Int32)), .val (.int (4 : Int32)), .val (.int x3)]) rfl) ?_
  refine own_fw (fun _ => ox_goto X6_8.here hx (pc0 := 41) (pc' := 3) rfl (hb hby d6_41) (by decide) (by decide)) ?_
  refine own_fw (fun _ => ox_iload X6_8.here hx (hb hby d6_3) rfl) ?_
  refine own_fw (fun _ => ox_iload X6_8.here hx (hb hby d6_5) rfl) ?_
  refine own_fw (fun _ => ox_icmpNo X6_8.here hx (hb hby d6_7) rfl (tlt (by decide : ((4 : Int32) < (5 : Int32)))).2.1) ?_
  refine own_fw (fun _ => ox_aloadN X6_8.here hx (hb hby d6_10) rfl rfl) ?_
  refine own_fw (fun _ => ox_iloadN X6_8.here hx (hb hby d6_11) rfl) ?_
  obtain ⟨cl6_9, Ar6_9, q6_9, S6_9, Ng6_9, Hs6_9, G6_9⟩ := id ((((V_0.other W6_2 hne).other W6_4 hne).other W6_6 hne).other W6_8 hne)
  have hin6_9 : ¬ ((4 : Int32) < 0 ∨ cl6_9.slots.size ≤ ((4 : Int32)).toNatClampNeg) := inb_of S6_9 ⟨by decide, by decide⟩
  refine own_fw (A := T6_8.setTop (mkF m 13 #[.val (.ref r0), .val (.int (4 : Int32)), .val (.ref r2), .val (.int (4 : Int32)), .val (.int (5 : Int32)), .val (.int (4 : Int32)), .val (.int x3)] [(.int x4)])) (X6_8.caload hx (j := (4 : Int32)) (v := (.int x4)) (by rw [e6_8]; exact Ar6_9.1) (State.isArrayOf_alike hZ.alike Ar6_9.2.1) Ar6_9.2.2 hin6_9 (Has.at Hs6_9 hin6_9 rfl) (g := (mkF m 12 #[.val (.ref r0), .val (.int (4 : Int32)), .val (.ref r2), .val (.int (4 : Int32)), .val (.int (5 : Int32)), .val (.int (4 : Int32)), .val (.int x3)] [(.int (4 : Int32)), (.ref r0)])) rfl rfl (hb hby d6_12)) ?_
  refine own_fw (fun _ => ox_istore X6_8.here hx (hb hby d6_13) rfl (l' := #[.val (.ref r0), .val (.int (4 : Int32)), .val (.ref r2), .val (.int (4 : Int32)), .val (.int (5 : Int32)), .val (.int (4 : Int32)), .val (.int x4)]) rfl) ?_
  refine own_fw (fun _ => ox_iload X6_8.here hx (hb hby d6_15) rfl) ?_
  refine own_fw (fun _ => ox_sipush X6_8.here hx (hb hby d6_17)) ?_
  refine own_fw (fun _ => ox_icmpYes X6_8.here hx (pc0 := 20) (pc' := 26) rfl (hb hby d6_20) rfl (flt le_x4).2.2.2 (by decide) (by decide)) ?_
  refine own_fw (fun _ => ox_aloadN X6_8.here hx (hb hby d6_26) rfl rfl) ?_
  refine own_fw (fun _ => ox_iloadN X6_8.here hx (hb hby d6_27) rfl) ?_
  refine own_fw (fun _ => ox_iload X6_8.here hx (hb hby d6_28) rfl) ?_
  refine own_fw (fun _ => ox_i2b X6_8.here hx (hb hby d6_30) rfl) ?_
  obtain ⟨cl6_10, Ar6_10, q6_10, S6_10, Ng6_10, Hs6_10, G6_10⟩ := id V6_8
  have hin6_10 : ¬ ((4 : Int32) < 0 ∨ cl6_10.slots.size ≤ ((4 : Int32)).toNatClampNeg) := inb_of S6_10 ⟨by decide, by decide⟩
  obtain ⟨T6_10, h6_10, X6_10, e6_10, W6_10, st6_10⟩ := stB X6_8 hx hZ e6_8 Ar6_10 (j := (4 : Int32)) hin6_10 (g := (mkF m 31 #[.val (.ref r0), .val (.int (4 : Int32)), .val (.ref r2), .val (.int (4 : Int32)), .val (.int (5 : Int32)), .val (.int (4 : Int32)), .val (.int x4)] [(.int (x4.toInt8.toInt32)), (.int (4 : Int32)), (.ref r2)])) rfl rfl (hb hby d6_31)
  have V6_10 : Arv Z h6_10 r2 k .byte (5 : Int32) [(.int (nar .byte (x0.toInt8.toInt32))), (.int (nar .byte (x1.toInt8.toInt32))), (.int (nar .byte (x2.toInt8.toInt32))), (.int (nar .byte (x3.toInt8.toInt32))), (.int (nar .byte (x4.toInt8.toInt32)))] (.int 0) := Arv.set Ar6_10 q6_10 S6_10 Ng6_10 Hs6_10 G6_10 (fits_nar_byte _) W6_10 4 rfl (Nat.le_of_ble_eq_true rfl)
  have N6_10 := Fr.snoc X6_10 N6_8 g_r2
  refine own_fw (A := T6_10.setTop (mkF m 32 #[.val (.ref r0), .val (.int (4 : Int32)), .val (.ref r2), .val (.int (4 : Int32)), .val (.int (5 : Int32)), .val (.int (4 : Int32)), .val (.int x4)] [])) st6_10 ?_
  refine own_fw (fun _ => ox_iinc X6_10.here hx (hb hby d6_32) rfl (l' := #[.val (.ref r0), .val (.int (5 : Int32)), .val (.ref r2), .val (.int (4 : Int32)), .val (.int (5 : Int32)), .val (.int (4 : Int32)), .val (.int x4)]) rfl) ?_
  refine own_fw (fun _ => ox_iinc X6_10.here hx (hb hby d6_35) rfl (l' := #[.val (.ref r0), .val (.int (5 : Int32)), .val (.ref r2), .val (.int (5 : Int32)), .val (.int (5 : Int32)), .val (.int (4 : Int32)), .val (.int x4)]) rfl) ?_
  refine own_fw (fun _ => ox_iinc X6_10.here hx (hb hby d6_38) rfl (l' := #[.val (.ref r0), .val (.int (5 : Int32)), .val (.ref r2), .val (.int (5 : Int32)), .val (.int (5 : Int32)), .val (.int (5 : Int32)), .val (.int x4)]) rfl) ?_
  refine own_fw (fun _ => ox_goto X6_10.here hx (pc0 := 41) (pc' := 3) rfl (hb hby d6_41) (by decide) (by decide)) ?_
  refine own_fw (fun _ => ox_iload X6_10.here hx (hb hby d6_3) rfl) ?_
  refine own_fw (fun _ => ox_iload X6_10.here hx (hb hby d6_5) rfl) ?_
  refine own_fw (fun _ => ox_icmpYes X6_10.here hx (pc0 := 7) (pc' := 44) rfl (hb hby d6_7) rfl (flt (Int32.lt_irrefl : ¬ ((5 : Int32) < (5 : Int32)))).2.1 (by decide) (by decide)) ?_
  refine own_fw (fun _ => ox_iload X6_10.here hx (hb hby d6_44) rfl) ?_
  exact own_leaf X6_10 (v := some (.int (5 : Int32))) (own_ret Bd.returns) (BodyLoose.notSynchronized Bd) e6_10 (⟨rfl, N6_10, ((((((Keep.refl h0 [r2]).wr W6_2 (Or.inl (List.mem_of_getElem? (i := 0) rfl))).wr W6_4 (Or.inl (List.mem_of_getElem? (i := 0) rfl))).wr W6_6 (Or.inl (List.mem_of_getElem? (i := 0) rfl))).wr W6_8 (Or.inl (List.mem_of_getElem? (i := 0) rfl))).wr W6_10 (Or.inl (List.mem_of_getElem? (i := 0) rfl))), V6_10⟩) (by decide) (by decide) (fun fs hr => retI X6_10 hx Bd.returns (hb hby d6_46) hr)
theorem rmCP_5 (l : Launch) (Z : State) (a0 : Array Value) (hw : ∀ d ∈ tables_1, d.before a0 Z = true) (ws : List Jvm.Cond) (r0 : Addr) (kc : ClassId) (x0 : Int32) (x1 : Int32) (x2 : Int32) (x3 : Int32) (x4 : Int32) (h0 : Heap) (n0 : Nat) (Z0 : n0 ≤ h0.size) (V_0 : Arv Z h0 r0 kc .char (5 : Int32) [(.int x0), (.int x1), (.int x2), (.int x3), (.int x4)] (.int 0)) (le_x0 : ¬ (255 : Int32) < x0) (le_x1 : ¬ (255 : Int32) < x1) (le_x2 : ¬ (255 : Int32) < x2) (le_x3 : ¬ (255 : Int32) < x3) (le_x4 : ¬ (255 : Int32) < x4) : OwnC l Z mN14 (Jvm.Cond.code mN14 jdk_52_method_16_code 6 (some (.array .byte)) :: ws) ({ frames := 1, cells := 1, slots := 5, locals := 18 } : Room) #[(.ref r0), (.int (0 : Int32)), (.int (5 : Int32))] h0 (Q5 Z (5 : Int32) [(.int (nar .byte (x0.toInt8.toInt32))), (.int (nar .byte (x1.toInt8.toInt32))), (.int (nar .byte (x2.toInt8.toInt32))), (.int (nar .byte (x3.toInt8.toInt32))), (.int (nar .byte (x4.toInt8.toInt32)))] h0 n0) := by
  refine own_body (plainFor_of_name pn5) (fun m => ef5 m r0 (0 : Int32) (5 : Int32)) ?_
  intro p e s m below meth c s₁ Bd hZ hml hown e0 hx hby hnm X0
  have N0 := Fr.nil n0
  refine own_fw (fun _ => ox_iloadN X0.here hx (hb hby d5_0) rfl) ?_
  obtain ⟨T5_1, h5_1, k5_1, X5_1, e5_1, E5_1, A5_1, st5_1⟩ := newP X0 hx hZ (own_w hw 33 rfl) e0 (g := (mkF m 1 #[.val (.ref r0), .val (.int (0 : Int32)), .val (.int (5 : Int32)), .unset, .unset, .unset] [(.int (5 : Int32))])) rfl (hb hby d5_1) rfl (by decide) (cap := 5) (by decide) (by decide) (by decide) (by decide)
  obtain ⟨b5_1, g5_1⟩ : ∃ z, z = h0.size := ⟨_, rfl⟩
  rw [← g5_1] at A5_1 st5_1
  have ne_r0_b5_1 : r0 ≠ b5_1 := Nat.ne_of_lt (Nat.lt_of_lt_of_le V_0.lt (Nat.le_of_eq g5_1.symm))
  have g_b5_1 : n0 ≤ b5_1 := Nat.le_trans Z0 (Nat.le_of_eq g5_1.symm)
  have sz_b5_1 : h0.size ≤ b5_1 := Nat.le_trans (Keep.refl h0 []).1 (Nat.le_of_eq g5_1.symm)
  have V_b5_1 : Arv Z h5_1 b5_1 k5_1 .byte (5 : Int32) [(.int (0 : Int32)), (.int (0 : Int32)), (.int (0 : Int32)), (.int (0 : Int32)), (.int (0 : Int32))] (.int (0 : Int32)) := (Arv.new A5_1 (by decide)).pad (pad_rep [] (.int (0 : Int32)) 5)
  refine own_fw (A := T5_1.setTop (mkF m 3 #[.val (.ref r0), .val (.int (0 : Int32)), .val (.int (5 : Int32)), .unset, .unset, .unset] [(.ref b5_1)])) st5_1 ?_
  refine own_fw (fun _ => ox_astoreN X5_1.here hx (hb hby d5_3) rfl rfl (l' := #[.val (.ref r0), .val (.int (0 : Int32)), .val (.int (5 : Int32)), .val (.ref b5_1), .unset, .unset]) rfl) ?_
  refine own_fw (fun _ => ox_aloadN X5_1.here hx (hb hby d5_4) rfl rfl) ?_
  refine own_fw (fun _ => ox_iloadN X5_1.here hx (hb hby d5_5) rfl) ?_
  refine own_fw (fun _ => ox_aloadN X5_1.here hx (hb hby d5_6) rfl rfl) ?_
  refine own_fw (fun _ => ox_iconst X5_1.here hx (hb hby d5_7)) ?_
  refine own_fw (fun _ => ox_iloadN X5_1.here hx (hb hby d5_8) rfl) ?_
  refine own_sc X5_1 hx hZ hown (rmCQ_5 l Z a0 hw [] r0 b5_1 kc k5_1 x0 x1 x2 x3 x4 h5_1 n0 (Nat.le_trans Z0 E5_1.1) (V_0.ext E5_1) V_b5_1 ne_r0_b5_1 g_b5_1 le_x0 le_x1 le_x2 le_x3 le_x4) (own_w hw 34 rfl) (own_w hw 35 rfl) (own_w hw 36 rfl) (own_w hw 31 rfl) (by decide) hml rfl e5_1 (hb hby d5_9) rfl rfl (lenOf pd5_0 rfl) (W := 0) rfl (by decide) (by decide) (c' := 1) (s' := 5) rfl rfl (by decide) (by decide) ?_
  rintro _ T5_2 L5_2 X5_2 ⟨rfl, N5_2q, K5_2, Vb5_2⟩
  have N5_2 := Fr.app N0 N5_2q
  refine own_fw (fun _ => ox_istore X5_2.here hx (hb hby d5_12) rfl (l' := #[.val (.ref r0), .val (.int (0 : Int32)), .val (.int (5 : Int32)), .val (.ref b5_1), .val (.int (5 : Int32)), .unset]) rfl) ?_
  refine own_fw (fun _ => ox_iload X5_2.here hx (hb hby d5_14) rfl) ?_
  refine own_fw (fun _ => ox_iloadN X5_2.here hx (hb hby d5_16) rfl) ?_
  refine own_fw (fun _ => ox_icmpYes X5_2.here hx (pc0 := 17) (pc' := 57) rfl (hb hby d5_17) rfl (teq (rfl : (5 : Int32) = (5 : Int32))).1 (by decide) (by decide)) ?_
  refine own_fw (fun _ => ox_aloadN X5_2.here hx (hb hby d5_57) rfl rfl) ?_
  exact own_leaf X5_2 (v := some (.ref b5_1)) (own_ret Bd.returns) (BodyLoose.notSynchronized Bd) rfl (⟨b5_1, k5_1, rfl, N5_2, (((Keep.refl h0 []).ext E5_1).trans K5_2 (allS (Or.inr sz_b5_1) all0)), Vb5_2, sz_b5_1⟩) (by decide) (by decide) (fun fs hr => retA (ty := (.array .byte)) X5_2 hx rfl rfl Bd.returns (hb hby d5_58) hr)
theorem rmS4_5 (l : Launch) (Z : State) (a0 : Array Value) (hw : ∀ d ∈ tables_1, d.before a0 Z = true) (ws : List Jvm.Cond) (r0 : Addr) (r1 : Addr) (kc : ClassId) (x0 : Int32) (x1 : Int32) (x2 : Int32) (x3 : Int32) (x4 : Int32) (cc : Int32) (fv : Value) (ra : Addr) (h0 : Heap) (n0 : Nat) (Z0 : n0 ≤ h0.size) (E : Exa Z h0 r0 "java/lang/String") (Sv : Fld Z h0 r0 "java/lang/String" "value" "[B" .null) (Sc : Fld Z h0 r0 "java/lang/String" "coder" "B" (.int 0)) (V_1 : Arv Z h0 r1 kc .char (5 : Int32) [(.int x0), (.int x1), (.int x2), (.int x3), (.int x4)] (.int 0)) (hne : r1 ≠ r0) (g_r0 : n0 ≤ r0) (le_x0 : ¬ (255 : Int32) < x0) (le_x1 : ¬ (255 : Int32) < x1) (le_x2 : ¬ (255 : Int32) < x2) (le_x3 : ¬ (255 : Int32) < x3) (le_x4 : ¬ (255 : Int32) < x4) (OO : OwnOld Z n0 h0 cc fv ra) : OwnC l Z mN15 (Jvm.Cond.code mN15 jdk_42_method_149_code 6 none :: ws) ({ frames := 2, cells := 1, slots := 5, locals := 35 } : Room) #[(.ref r0), (.ref r1), (.int (0 : Int32)), (.int (5 : Int32)), .null] h0 (Q4 Z r0 (5 : Int32) [(.int (nar .byte (x0.toInt8.toInt32))), (.int (nar .byte (x1.toInt8.toInt32))), (.int (nar .byte (x2.toInt8.toInt32))), (.int (nar .byte (x3.toInt8.toInt32))), (.int (nar .byte (x4.toInt8.toInt32)))] h0 n0) := by
  refine own_body (plainFor_of_name pn4) (fun m => ef4 m r0 r1 (0 : Int32) (5 : Int32)) ?_
  intro p e s m below meth c s₁ Bd hZ hml hown e0 hx hby hnm X0
  have N0 := Fr.nil n0
  obtain ⟨O_0, S_c, hcc, S_f, hfv, S_r⟩ := OO
  refine own_fw (fun _ => ox_aloadN X0.here hx (hb hby d4_0) rfl rfl) ?_
  obtain ⟨T4_1, X4_1, e4_1, st4_1⟩ := initO X0 hx hZ hown (own_w hw 27 rfl) (own_w hw 7 rfl) (own_w hw 8 rfl) e0 (g := (mkF m 1 #[.val (.ref r0), .val (.ref r1), .val (.int (0 : Int32)), .val (.int (5 : Int32)), .val .null, .unset] [(.ref r0)])) rfl (by rw [hml]; rfl) rfl (hb hby d4_1) (by decide) (W := 0) (own_mr rfl) (by decide)
  refine own_fw (A := T4_1.setTop (mkF m 4 #[.val (.ref r0), .val (.ref r1), .val (.int (0 : Int32)), .val (.int (5 : Int32)), .val .null, .unset] [])) st4_1 ?_
  refine own_fw (fun _ => ox_iloadN X4_1.here hx (hb hby d4_4) rfl) ?_
  refine own_fw (fun _ => ox_ifYes X4_1.here hx (pc0 := 5) (pc' := 27) rfl (hb hby d4_5) rfl ((if0 _ _).trans (feq (by decide : ¬ ((5 : Int32) = (0 : Int32)))).2) (by decide) (by decide)) ?_
  obtain ⟨T4_2, X4_2, e4_2, st4_2⟩ := getS2 X4_1 hx hZ hown (host := "") (Or.inl (own_w hw 28 rfl)) Via.refl e4_1 (S_c.ext O_0.2) (g := (mkF m 27 #[.val (.ref r0), .val (.ref r1), .val (.int (0 : Int32)), .val (.int (5 : Int32)), .val .null, .unset] [])) rfl (hb hby d4_27)
  refine own_fw (A := T4_2.setTop (mkF m 30 #[.val (.ref r0), .val (.ref r1), .val (.int (0 : Int32)), .val (.int (5 : Int32)), .val .null, .unset] [(.int cc)])) st4_2 ?_
  refine own_fw (fun _ => ox_ifNo X4_2.here hx (hb hby d4_30) rfl ((if0 _ _).trans (feq hcc).1)) ?_
  refine own_fw (fun _ => ox_aloadN X4_2.here hx (hb hby d4_33) rfl rfl) ?_
  refine own_fw (fun _ => ox_iloadN X4_2.here hx (hb hby d4_34) rfl) ?_
  refine own_fw (fun _ => ox_iloadN X4_2.here hx (hb hby d4_35) rfl) ?_
  refine own_sc X4_2 hx hZ hown (rmCP_5 l Z a0 hw [] r1 kc x0 x1 x2 x3 x4 h0 n0 Z0 V_1 le_x0 le_x1 le_x2 le_x3 le_x4) (own_w hw 29 rfl) (own_w hw 30 rfl) (own_w hw 32 rfl) (own_w hw 31 rfl) (by decide) hml rfl e4_2 (hb hby d4_36) rfl rfl (lenOf pd4_0 rfl) (W := 0) rfl (by decide) (by decide) (c' := 1) (s' := 5) rfl rfl (by decide) (by decide) ?_
  rintro _ T4_3 L4_3 X4_3 ⟨bc4_3, kb4_3, rfl, N4_3q, K4_3, Vb4_3, zb4_3⟩
  have N4_3 := Fr.app N0 N4_3q
  have ne_r0_bc4_3 : r0 ≠ bc4_3 := Nat.ne_of_lt (Nat.lt_of_lt_of_le E.lt zb4_3)
  have sz_bc4_3 : h0.size ≤ bc4_3 := Nat.le_trans (Keep.refl h0 [r0]).1 zb4_3
  refine own_fw (fun _ => ox_astore X4_3.here hx (hb hby d4_39) rfl rfl (l' := #[.val (.ref r0), .val (.ref r1), .val (.int (0 : Int32)), .val (.int (5 : Int32)), .val .null, .val (.ref bc4_3)]) rfl) ?_
  refine own_fw (fun _ => ox_aloadN X4_3.here hx (hb hby d4_41) rfl rfl) ?_
  refine own_fw (fun _ => ox_aload X4_3.here hx (hb hby d4_42) rfl rfl) ?_
  refine own_fw (fun _ => ox_iloadN X4_3.here hx (hb hby d4_44) rfl) ?_
  refine own_sc X4_3 hx hZ hown (rmCF_5 l Z a0 hw [] bc4_3 kb4_3 x0 x1 x2 x3 x4 T4_3.heap n0 (Nat.le_trans Z0 K4_3.1) Vb4_3) (own_w hw 37 rfl) (own_w hw 38 rfl) (own_w hw 39 rfl) (own_w hw 31 rfl) (by decide) hml rfl rfl (hb hby d4_45) rfl rfl (lenOf pd4_1 rfl) (W := 1) rfl (by decide) (by decide) (c' := 1) (s' := 5) rfl rfl (by decide) (by decide) ?_
  rintro _ T4_4 L4_4 X4_4 ⟨rfl, N4_4q, e4_4⟩
  have N4_4 := Fr.app N4_3 N4_4q
  obtain ⟨T4_5, h4_5, X4_5, e4_5, W4_5, st4_5⟩ := putFN X4_4 hx hZ hown (own_w hw 40 rfl) Via.refl e4_4 (Sc.keep K4_3 (fun q => nomatch q)) (E.keep K4_3) (Or.inr ⟨(own_w hw 41 rfl), rfl, hnm⟩) (own_w hw 18 rfl) (ty := .byte) (v' := (.int (nar .byte (0 : Int32)))) (by decide) rfl (fits_nar_byte _) (g := (mkF m 48 #[.val (.ref r0), .val (.ref r1), .val (.int (0 : Int32)), .val (.int (5 : Int32)), .val .null, .val (.ref bc4_3)] [(.int (0 : Int32)), (.ref r0)])) rfl rfl (hb hby d4_48)
  have Fw4_5 := (Sc.keep K4_3 (fun q => nomatch q)).same W4_5
  have N4_5 := Fr.snoc X4_5 N4_4 g_r0
  refine own_fw (A := T4_5.setTop (mkF m 51 #[.val (.ref r0), .val (.ref r1), .val (.int (0 : Int32)), .val (.int (5 : Int32)), .val .null, .val (.ref bc4_3)] [])) st4_5 ?_
  refine own_fw (fun _ => ox_aloadN X4_5.here hx (hb hby d4_51) rfl rfl) ?_
  refine own_fw (fun _ => ox_aload X4_5.here hx (hb hby d4_52) rfl rfl) ?_
  obtain ⟨T4_6, h4_6, X4_6, e4_6, W4_6, st4_6⟩ := putF X4_5 hx hZ hown (host := "") (Or.inl (own_w hw 42 rfl)) Via.refl e4_5 ((Sv.keep K4_3 (fun q => nomatch q)).other W4_5 (Or.inr (slot_ne (Or.inr (own_w hw 43 rfl)) (Or.inr (own_w hw 41 rfl)) (by decide) (t := (.array .byte)) (t' := .byte) (by decide) (by decide)))) ((E.keep K4_3).wr W4_5) (Or.inr ⟨(own_w hw 43 rfl), rfl, hnm⟩) (own_w hw 18 rfl) (ty := (.array .byte)) (by decide) rfl rfl (g := (mkF m 54 #[.val (.ref r0), .val (.ref r1), .val (.int (0 : Int32)), .val (.int (5 : Int32)), .val .null, .val (.ref bc4_3)] [(.ref bc4_3), (.ref r0)])) rfl rfl (hb hby d4_54)
  have Fw4_6 := ((Sv.keep K4_3 (fun q => nomatch q)).other W4_5 (Or.inr (slot_ne (Or.inr (own_w hw 43 rfl)) (Or.inr (own_w hw 41 rfl)) (by decide) (t := (.array .byte)) (t' := .byte) (by decide) (by decide)))).same W4_6
  have N4_6 := Fr.snoc X4_6 N4_5 g_r0
  refine own_fw (A := T4_6.setTop (mkF m 57 #[.val (.ref r0), .val (.ref r1), .val (.int (0 : Int32)), .val (.int (5 : Int32)), .val .null, .val (.ref bc4_3)] [])) st4_6 ?_
  exact own_leaf X4_6 (v := none) (fun _ => rfl) (BodyLoose.notSynchronized Bd) e4_6 (⟨bc4_3, kb4_3, rfl, N4_6, ((((Keep.refl h0 [r0]).trans K4_3 all0).wr W4_5 (Or.inl (List.mem_of_getElem? (i := 0) rfl))).wr W4_6 (Or.inl (List.mem_of_getElem? (i := 0) rfl))), (((E.keep K4_3).wr W4_5).wr W4_6), Fw4_6, own_fc (Fw4_5.other W4_6 (Or.inr (slot_ne (Or.inr (own_w hw 41 rfl)) (Or.inr (own_w hw 43 rfl)) (by decide) (t := .byte) (t' := (.array .byte)) (by decide) (by decide)))) (by decide), ((Vb4_3.other W4_5 (Ne.symm ne_r0_bc4_3)).other W4_6 (Ne.symm ne_r0_bc4_3)), sz_bc4_3⟩) (by decide) (by decide) (fun fs hr => X4_6.returnOut hx Bd.returns (hb hby d4_57) hr)
theorem rmS1_5 (l : Launch) (Z : State) (a0 : Array Value) (hw : ∀ d ∈ tables_1, d.before a0 Z = true) (ws : List Jvm.Cond) (r0 : Addr) (r1 : Addr) (kc : ClassId) (x0 : Int32) (x1 : Int32) (x2 : Int32) (x3 : Int32) (x4 : Int32) (cc : Int32) (fv : Value) (ra : Addr) (h0 : Heap) (n0 : Nat) (Z0 : n0 ≤ h0.size) (E : Exa Z h0 r0 "java/lang/String") (Sv : Fld Z h0 r0 "java/lang/String" "value" "[B" .null) (Sc : Fld Z h0 r0 "java/lang/String" "coder" "B" (.int 0)) (V_1 : Arv Z h0 r1 kc .char (5 : Int32) [(.int x0), (.int x1), (.int x2), (.int x3), (.int x4)] (.int 0)) (hne : r1 ≠ r0) (g_r0 : n0 ≤ r0) (le_x0 : ¬ (255 : Int32) < x0) (le_x1 : ¬ (255 : Int32) < x1) (le_x2 : ¬ (255 : Int32) < x2) (le_x3 : ¬ (255 : Int32) < x3) (le_x4 : ¬ (255 : Int32) < x4) (OO : OwnOld Z n0 h0 cc fv ra) : OwnC l Z mN16 (Jvm.Cond.code mN16 jdk_42_method_3_code 2 none :: ws) ({ frames := 3, cells := 1, slots := 5, locals := 52 } : Room) #[(.ref r0), (.ref r1)] h0 (Q3 Z r0 (5 : Int32) [(.int (nar .byte (x0.toInt8.toInt32))), (.int (nar .byte (x1.toInt8.toInt32))), (.int (nar .byte (x2.toInt8.toInt32))), (.int (nar .byte (x3.toInt8.toInt32))), (.int (nar .byte (x4.toInt8.toInt32)))] h0 n0) := by
  refine own_body (plainFor_of_name pn3) (fun m => ef3 m r0 r1) ?_
  intro p e s m below meth c s₁ Bd hZ hml hown e0 hx hby hnm X0
  have N0 := Fr.nil n0
  obtain ⟨O_0, S_c, hcc, S_f, hfv, S_r⟩ := OO
  refine own_fw (fun _ => ox_aloadN X0.here hx (hb hby d3_0) rfl rfl) ?_
  refine own_fw (fun _ => ox_aloadN X0.here hx (hb hby d3_1) rfl rfl) ?_
  refine own_fw (fun _ => ox_iconst X0.here hx (hb hby d3_2)) ?_
  refine own_fw (fun _ => ox_aloadN X0.here hx (hb hby d3_3) rfl rfl) ?_
  obtain ⟨cl3_1, Ar3_1, q3_1, S3_1, Ng3_1, Hs3_1, G3_1⟩ := id V_1
  have st3_1 := X0.arraylength hx (by rw [e0]; exact Ar3_1.1) (State.isArrayOf_alike hZ.alike Ar3_1.2.1) (g := (mkF m 4 #[.val (.ref r0), .val (.ref r1)] [(.ref r1), (.int (0 : Int32)), (.ref r1), (.ref r0)])) rfl rfl (hb hby d3_4)
  rw [len_of S3_1 Ng3_1] at st3_1
  refine own_fw (A := s₁.setTop (mkF m 5 #[.val (.ref r0), .val (.ref r1)] [(.int (5 : Int32)), (.int (0 : Int32)), (.ref r1), (.ref r0)])) st3_1 ?_
  refine own_fw (fun _ => ox_aconstNull X0.here hx (hb hby d3_5)) ?_
  refine own_ic X0 hx hZ hown (rmS4_5 l Z a0 hw [] r0 r1 kc x0 x1 x2 x3 x4 cc fv ra h0 n0 Z0 E Sv Sc V_1 hne g_r0 le_x0 le_x1 le_x2 le_x3 le_x4 ⟨O_0, S_c, hcc, S_f, hfv, S_r⟩) (own_w hw 23 rfl) (own_w hw 24 rfl) (own_w hw 26 rfl) (own_w hw 19 rfl) rfl (by decide) hml rfl e0 (hb hby d3_6) rfl rfl (lenOf pd3_0 rfl) (W := 0) rfl (by decide) (by decide) (c' := 1) (s' := 5) rfl rfl (by decide) (by decide) ?_
  rintro _ T3_2 L3_2 X3_2 ⟨bc3_2, kb3_2, rfl, N3_2q, K3_2, E3_2, Sv3_2, Sc3_2, Vb3_2, zb3_2⟩
  have N3_2 := Fr.app N0 N3_2q
  have sz_bc3_2 : h0.size ≤ bc3_2 := Nat.le_trans (Keep.refl h0 [r0]).1 zb3_2
  exact own_leaf X3_2 (v := none) (fun _ => rfl) (BodyLoose.notSynchronized Bd) rfl (⟨bc3_2, kb3_2, rfl, N3_2, ((Keep.refl h0 [r0]).trans K3_2 (allS (Or.inl (List.mem_of_getElem? (i := 0) rfl)) all0)), E3_2, Sv3_2, Sc3_2, Vb3_2, sz_bc3_2⟩) (by decide) (by decide) (fun fs hr => X3_2.returnOut hx Bd.returns (hb hby d3_9) hr)
set_option maxRecDepth 65536
def own_asc (x : Int32) : Prop := ∃ k : Fin 128, x = Int32.ofNat k.val
def own_dig (x : Int32) : Prop := ∃ k : Fin 10, x = Int32.ofNat (48 + k.val)
def own_let (x : Int32) : Prop := ∃ k : Fin 25, x = Int32.ofNat (65 + k.val)
theorem own_dasc {x : Int32} (h : own_dig x) : own_asc x := by obtain ⟨k, rfl⟩ := h; exact ⟨⟨48 + k.val, by omega⟩, rfl⟩
theorem own_lasc {x : Int32} (h : own_let x) : own_asc x := by obtain ⟨k, rfl⟩ := h; exact ⟨⟨65 + k.val, by omega⟩, rfl⟩
theorem own_a32 : own_asc (32 : Int32) := ⟨⟨32, by decide⟩, rfl⟩
theorem own_a48 : own_asc (48 : Int32) := ⟨⟨48, by decide⟩, rfl⟩
theorem own_a90 : own_asc (90 : Int32) := ⟨⟨90, by decide⟩, rfl⟩
theorem own_ch {x : Int32} (h : own_asc x) : nar .char ((x &&& (255 : Int32)).toUInt32.toUInt16.toUInt32.toInt32) = x := by
  obtain ⟨k, rfl⟩ := h
  exact (by decide : ∀ k : Fin 128, nar .char ((Int32.ofNat k.val &&& (255 : Int32)).toUInt32.toUInt16.toUInt32.toInt32) = Int32.ofNat k.val) k
theorem own_nc {x : Int32} (h : own_asc x) : nar .char x = x := by
  obtain ⟨k, rfl⟩ := h
  exact (by decide : ∀ k : Fin 128, nar .char (Int32.ofNat k.val) = Int32.ofNat k.val) k
theorem own_dn {x : Int32} (h : own_dig x) : ¬ x = (32 : Int32) := by
  obtain ⟨k, rfl⟩ := h
  exact (by decide : ∀ k : Fin 10, ¬ Int32.ofNat (48 + k.val) = (32 : Int32)) k
theorem own_ln {x : Int32} (h : own_let x) : ¬ x = (32 : Int32) := by
  obtain ⟨k, rfl⟩ := h
  exact (by decide : ∀ k : Fin 25, ¬ Int32.ofNat (65 + k.val) = (32 : Int32)) k
theorem d22_0 : decode jdk_41_method_11_code 0 = .ok (.iload_n 0, 1) := by decide +kernel
theorem d22_1 : decode jdk_41_method_11_code 1 = .ok (.ifCond .lt 8, 3) := by decide +kernel
theorem d22_4 : decode jdk_41_method_11_code 4 = .ok (.iload_n 0, 1) := by decide +kernel
theorem d22_5 : decode jdk_41_method_11_code 5 = .ok (.iload_n 1, 1) := by decide +kernel
theorem d22_6 : decode jdk_41_method_11_code 6 = .ok (.if_icmp .lt 10, 3) := by decide +kernel
theorem d22_16 : decode jdk_41_method_11_code 16 = .ok (.iload_n 0, 1) := by decide +kernel
theorem d22_17 : decode jdk_41_method_11_code 17 = .ok (.ireturn, 1) := by decide +kernel
theorem pn22 : plainName "jdk/internal/util/Preconditions" = true := by first | (simp [plainName, overriddenIn]; done) | decide +kernel
theorem ef22 (m : MethodId) (p0 : Int32) (p1 : Int32) (fv : Value) (hfv : fv.isRef = true) : entryFrame m #[.int p0, .int p1, fv] 3 = mkF m 0 #[.val (.int p0), .val (.int p1), .val fv] [] := by
  cases fv <;> first | (cases hfv; done) | (simp [entryFrame, mkF, argsToLocals, Value.category]; done) | rfl
def Q22 (Z : State) (z : Int32) (h0 : Heap) (n0 : Nat) (w : Option Value) (h : Heap) (L : List Loc) : Prop := w = some (.int z) ∧ Fr n0 L ∧ h = h0
theorem rm22 (l : Launch) (Z : State) (a0 : Array Value) (hw : ∀ d ∈ tables_1, d.before a0 Z = true) (ws : List Jvm.Cond) (p0 : Int32) (p1 : Int32) (fv : Value) (h0 : Heap) (n0 : Nat) (Z0 : n0 ≤ h0.size) (hfv : fv.isRef = true) (i0 : ¬ p0 < (0 : Int32)) (i1 : p0 < p1) : OwnC l Z (⟨"jdk/internal/util/Preconditions", "checkIndex", "(IILjava/util/function/BiFunction;)I"⟩ : MethodName) (Jvm.Cond.code (⟨"jdk/internal/util/Preconditions", "checkIndex", "(IILjava/util/function/BiFunction;)I"⟩ : MethodName) jdk_41_method_11_code 3 (some .int) :: ws) ({ frames := 0, cells := 0, slots := 0, locals := 0 } : Room) #[(.int p0), (.int p1), fv] h0 (Q22 Z p0 h0 n0) := by
  refine own_body (plainFor_of_name pn22) (fun m => ef22 m p0 p1 fv hfv) ?_
  intro p e s m below meth c s₁ Bd hZ hml hown e0 hx hby hnm X0
  have N0 := Fr.nil n0
  refine own_fw (fun _ => ox_iloadN X0.here hx (hb hby d22_0) rfl) ?_
  refine own_fw (fun _ => ox_ifNo X0.here hx (hb hby d22_1) rfl ((if0 _ _).trans (flt i0).1)) ?_
  refine own_fw (fun _ => ox_iloadN X0.here hx (hb hby d22_4) rfl) ?_
  refine own_fw (fun _ => ox_iloadN X0.here hx (hb hby d22_5) rfl) ?_
  refine own_fw (fun _ => ox_icmpYes X0.here hx (pc0 := 6) (pc' := 16) rfl (hb hby d22_6) rfl (tlt i1).1 (by decide) (by decide)) ?_
  refine own_fw (fun _ => ox_iloadN X0.here hx (hb hby d22_16) rfl) ?_
  exact own_leaf X0 (v := some (.int p0)) (own_ret Bd.returns) (BodyLoose.notSynchronized Bd) e0 (⟨rfl, N0, rfl⟩) (by decide) (by decide) (fun fs hr => retI X0 hx Bd.returns (hb hby d22_17) hr)
theorem d30_0 : decode cB20 0 = .ok (.iload_n 0, 1) := by decide +kernel
theorem d30_1 : decode cB20 1 = .ok (.ifCond .lt 13, 3) := by decide +kernel
theorem d30_4 : decode cB20 4 = .ok (.iload_n 0, 1) := by decide +kernel
theorem d30_5 : decode cB20 5 = .ok (.iload_n 1, 1) := by decide +kernel
theorem d30_6 : decode cB20 6 = .ok (.if_icmp .gt 8, 3) := by decide +kernel
theorem d30_9 : decode cB20 9 = .ok (.iload_n 1, 1) := by decide +kernel
theorem d30_10 : decode cB20 10 = .ok (.iload_n 2, 1) := by decide +kernel
theorem d30_11 : decode cB20 11 = .ok (.if_icmp .le 11, 3) := by decide +kernel
theorem d30_22 : decode cB20 22 = .ok (.iload_n 0, 1) := by decide +kernel
theorem d30_23 : decode cB20 23 = .ok (.ireturn, 1) := by decide +kernel
theorem pn30 : plainName "jdk/internal/util/Preconditions" = true := by first | (simp [plainName, overriddenIn]; done) | decide +kernel
theorem ef30 (m : MethodId) (p0 : Int32) (p1 : Int32) (p2 : Int32) (fv : Value) (hfv : fv.isRef = true) : entryFrame m #[.int p0, .int p1, .int p2, fv] 4 = mkF m 0 #[.val (.int p0), .val (.int p1), .val (.int p2), .val fv] [] := by
  cases fv <;> first | (cases hfv; done) | (simp [entryFrame, mkF, argsToLocals, Value.category]; done) | rfl
def Q30 (Z : State) (z : Int32) (h0 : Heap) (n0 : Nat) (w : Option Value) (h : Heap) (L : List Loc) : Prop := w = some (.int z) ∧ Fr n0 L ∧ h = h0
theorem rm30 (l : Launch) (Z : State) (a0 : Array Value) (hw : ∀ d ∈ tables_1, d.before a0 Z = true) (ws : List Jvm.Cond) (p0 : Int32) (p1 : Int32) (p2 : Int32) (fv : Value) (h0 : Heap) (n0 : Nat) (Z0 : n0 ≤ h0.size) (hfv : fv.isRef = true) (i0 : ¬ p0 < (0 : Int32)) (i1 : ¬ p1 < p0) (i2 : ¬ p2 < p1) : OwnC l Z (⟨"jdk/internal/util/Preconditions", "checkFromToIndex", "(IIILjava/util/function/BiFunction;)I"⟩ : MethodName) (Jvm.Cond.code (⟨"jdk/internal/util/Preconditions", "checkFromToIndex", "(IIILjava/util/function/BiFunction;)I"⟩ : MethodName) jdk_41_method_12_code 4 (some .int) :: ws) ({ frames := 0, cells := 0, slots := 0, locals := 0 } : Room) #[(.int p0), (.int p1), (.int p2), fv] h0 (Q30 Z p0 h0 n0) := by
  refine own_body (plainFor_of_name pn30) (fun m => ef30 m p0 p1 p2 fv hfv) ?_
  intro p e s m below meth c s₁ Bd hZ hml hown e0 hx hby hnm X0
  have N0 := Fr.nil n0
  refine own_fw (fun _ => ox_iloadN X0.here hx (hb hby d30_0) rfl) ?_
  refine own_fw (fun _ => ox_ifNo X0.here hx (hb hby d30_1) rfl ((if0 _ _).trans (flt i0).1)) ?_
  refine own_fw (fun _ => ox_iloadN X0.here hx (hb hby d30_4) rfl) ?_
  refine own_fw (fun _ => ox_iloadN X0.here hx (hb hby d30_5) rfl) ?_
  refine own_fw (fun _ => ox_icmpNo X0.here hx (hb hby d30_6) rfl (flt i1).2.2.1) ?_
  refine own_fw (fun _ => ox_iloadN X0.here hx (hb hby d30_9) rfl) ?_
  refine own_fw (fun _ => ox_iloadN X0.here hx (hb hby d30_10) rfl) ?_
  refine own_fw (fun _ => ox_icmpYes X0.here hx (pc0 := 11) (pc' := 22) rfl (hb hby d30_11) rfl (flt i2).2.2.2 (by decide) (by decide)) ?_
  refine own_fw (fun _ => ox_iloadN X0.here hx (hb hby d30_22) rfl) ?_
  exact own_leaf X0 (v := some (.int p0)) (own_ret Bd.returns) (BodyLoose.notSynchronized Bd) e0 (⟨rfl, N0, rfl⟩) (by decide) (by decide) (fun fs hr => retI X0 hx Bd.returns (hb hby d30_23) hr)
theorem d21_0 : decode jdk_42_method_155_code 0 = .ok (.iload_n 0, 1) := by decide +kernel
theorem d21_1 : decode jdk_42_method_155_code 1 = .ok (.iload_n 1, 1) := by decide +kernel
theorem d21_2 : decode jdk_42_method_155_code 2 = .ok (.getstatic 1053, 3) := by decide +kernel
theorem d21_5 : decode jdk_42_method_155_code 5 = .ok (.invokestatic 1059, 3) := by decide +kernel
theorem d21_8 : decode jdk_42_method_155_code 8 = .ok (.pop, 1) := by decide +kernel
theorem d21_9 : decode jdk_42_method_155_code 9 = .ok (.return_, 1) := by decide +kernel
theorem pn21 : plainName "java/lang/String" = true := by first | (simp [plainName, overriddenIn]; done) | decide +kernel
theorem pd21_0 : parseMethodDescriptor "(IILjava/util/function/BiFunction;)I" = some ⟨[.int, .int, (.object "java/util/function/BiFunction")], some .int⟩ := by decide +kernel
theorem ef21 (m : MethodId) (p0 : Int32) (p1 : Int32) : entryFrame m #[(.int p0), (.int p1)] 2 = mkF m 0 #[.val (.int p0), .val (.int p1)] [] := by first | (simp [entryFrame, mkF, argsToLocals, Value.category]; done) | rfl
def Q21 (Z : State)  (h0 : Heap) (n0 : Nat) (w : Option Value) (h : Heap) (L : List Loc) : Prop := w = none ∧ Fr n0 L ∧ h = h0
theorem rm21 (l : Launch) (Z : State) (a0 : Array Value) (hw : ∀ d ∈ tables_1, d.before a0 Z = true) (ws : List Jvm.Cond) (p0 : Int32) (p1 : Int32) (cc : Int32) (fv : Value) (ra : Addr) (h0 : Heap) (n0 : Nat) (Z0 : n0 ≤ h0.size) (i0 : ¬ p0 < (0 : Int32)) (i1 : p0 < p1) (OO : OwnOld Z n0 h0 cc fv ra) : OwnC l Z (⟨"java/lang/String", "checkIndex", "(II)V"⟩ : MethodName) (Jvm.Cond.code (⟨"java/lang/String", "checkIndex", "(II)V"⟩ : MethodName) jdk_42_method_155_code 2 none :: ws) ({ frames := 1, cells := 0, slots := 0, locals := 14 } : Room) #[(.int p0), (.int p1)] h0 (Q21 Z  h0 n0) := by
  refine own_body (plainFor_of_name pn21) (fun m => ef21 m p0 p1) ?_
  intro p e s m below meth c s₁ Bd hZ hml hown e0 hx hby hnm X0
  have N0 := Fr.nil n0
  obtain ⟨O_0, S_c, hcc, S_f, hfv, S_r⟩ := OO
  refine own_fw (fun _ => ox_iloadN X0.here hx (hb hby d21_0) rfl) ?_
  refine own_fw (fun _ => ox_iloadN X0.here hx (hb hby d21_1) rfl) ?_
  obtain ⟨T21_1, X21_1, e21_1, st21_1⟩ := getS2 X0 hx hZ hown (host := "") (Or.inl (own_w hw 141 rfl)) Via.refl e0 (S_f.ext O_0.2) (g := (mkF m 2 #[.val (.int p0), .val (.int p1)] [(.int p1), (.int p0)])) rfl (hb hby d21_2)
  refine own_fw (A := T21_1.setTop (mkF m 5 #[.val (.int p0), .val (.int p1)] [fv, (.int p1), (.int p0)])) st21_1 ?_
  refine own_sc X21_1 hx hZ hown (rm22 l Z a0 hw [] p0 p1 fv h0 n0 Z0 hfv i0 i1) (own_w hw 143 rfl) (own_w hw 144 rfl) (own_w hw 145 rfl) (own_w hw 142 rfl) (by decide) hml rfl e21_1 (hb hby d21_5) rfl rfl (lenOf pd21_0 rfl) (W := 0) rfl (by decide) (by decide) (c' := 0) (s' := 0) rfl rfl (by decide) (by decide) ?_
  rintro _ T21_2 L21_2 X21_2 ⟨rfl, N21_2q, e21_2⟩
  have N21_2 := Fr.app N0 N21_2q
  refine own_fw (fun _ => ox_pop X21_2.here hx (hb hby d21_8) rfl rfl) ?_
  exact own_leaf X21_2 (v := none) (fun _ => rfl) (BodyLoose.notSynchronized Bd) e21_2 (⟨rfl, N21_2, rfl⟩) (by decide) (by decide) (fun fs hr => X21_2.returnOut hx Bd.returns (hb hby d21_9) hr)
theorem d29_0 : decode jdk_42_method_158_code 0 = .ok (.iload_n 0, 1) := by decide +kernel
theorem d29_1 : decode jdk_42_method_158_code 1 = .ok (.iload_n 1, 1) := by decide +kernel
theorem d29_2 : decode jdk_42_method_158_code 2 = .ok (.iload_n 2, 1) := by decide +kernel
theorem d29_3 : decode jdk_42_method_158_code 3 = .ok (.getstatic 1053, 3) := by decide +kernel
theorem d29_6 : decode jdk_42_method_158_code 6 = .ok (.invokestatic 1062, 3) := by decide +kernel
theorem d29_9 : decode jdk_42_method_158_code 9 = .ok (.pop, 1) := by decide +kernel
theorem d29_10 : decode jdk_42_method_158_code 10 = .ok (.return_, 1) := by decide +kernel
theorem pn29 : plainName "java/lang/String" = true := by first | (simp [plainName, overriddenIn]; done) | decide +kernel
theorem pd29_0 : parseMethodDescriptor "(IIILjava/util/function/BiFunction;)I" = some ⟨[.int, .int, .int, (.object "java/util/function/BiFunction")], some .int⟩ := by decide +kernel
theorem ef29 (m : MethodId) (p0 : Int32) (p1 : Int32) (p2 : Int32) : entryFrame m #[(.int p0), (.int p1), (.int p2)] 3 = mkF m 0 #[.val (.int p0), .val (.int p1), .val (.int p2)] [] := by first | (simp [entryFrame, mkF, argsToLocals, Value.category]; done) | rfl
def Q29 (Z : State)  (h0 : Heap) (n0 : Nat) (w : Option Value) (h : Heap) (L : List Loc) : Prop := w = none ∧ Fr n0 L ∧ h = h0
theorem rm29 (l : Launch) (Z : State) (a0 : Array Value) (hw : ∀ d ∈ tables_1, d.before a0 Z = true) (ws : List Jvm.Cond) (p0 : Int32) (p1 : Int32) (p2 : Int32) (cc : Int32) (fv : Value) (ra : Addr) (h0 : Heap) (n0 : Nat) (Z0 : n0 ≤ h0.size) (i0 : ¬ p0 < (0 : Int32)) (i1 : ¬ p1 < p0) (i2 : ¬ p2 < p1) (OO : OwnOld Z n0 h0 cc fv ra) : OwnC l Z (⟨"java/lang/String", "checkBoundsBeginEnd", "(III)V"⟩ : MethodName) (Jvm.Cond.code (⟨"java/lang/String", "checkBoundsBeginEnd", "(III)V"⟩ : MethodName) jdk_42_method_158_code 3 none :: ws) ({ frames := 1, cells := 0, slots := 0, locals := 15 } : Room) #[(.int p0), (.int p1), (.int p2)] h0 (Q29 Z  h0 n0) := by
  refine own_body (plainFor_of_name pn29) (fun m => ef29 m p0 p1 p2) ?_
  intro p e s m below meth c s₁ Bd hZ hml hown e0 hx hby hnm X0
  have N0 := Fr.nil n0
  obtain ⟨O_0, S_c, hcc, S_f, hfv, S_r⟩ := OO
  refine own_fw (fun _ => ox_iloadN X0.here hx (hb hby d29_0) rfl) ?_
  refine own_fw (fun _ => ox_iloadN X0.here hx (hb hby d29_1) rfl) ?_
  refine own_fw (fun _ => ox_iloadN X0.here hx (hb hby d29_2) rfl) ?_
  obtain ⟨T29_1, X29_1, e29_1, st29_1⟩ := getS2 X0 hx hZ hown (host := "") (Or.inl (own_w hw 141 rfl)) Via.refl e0 (S_f.ext O_0.2) (g := (mkF m 3 #[.val (.int p0), .val (.int p1), .val (.int p2)] [(.int p2), (.int p1), (.int p0)])) rfl (hb hby d29_3)
  refine own_fw (A := T29_1.setTop (mkF m 6 #[.val (.int p0), .val (.int p1), .val (.int p2)] [fv, (.int p2), (.int p1), (.int p0)])) st29_1 ?_
  refine own_sc X29_1 hx hZ hown (rm30 l Z a0 hw [] p0 p1 p2 fv h0 n0 Z0 hfv i0 i1 i2) (own_w hw 177 rfl) (own_w hw 178 rfl) (own_w hw 179 rfl) (own_w hw 142 rfl) (by decide) hml rfl e29_1 (hb hby d29_6) rfl rfl (lenOf pd29_0 rfl) (W := 0) rfl (by decide) (by decide) (c' := 0) (s' := 0) rfl rfl (by decide) (by decide) ?_
  rintro _ T29_2 L29_2 X29_2 ⟨rfl, N29_2q, e29_2⟩
  have N29_2 := Fr.app N0 N29_2q
  refine own_fw (fun _ => ox_pop X29_2.here hx (hb hby d29_9) rfl rfl) ?_
  exact own_leaf X29_2 (v := none) (fun _ => rfl) (BodyLoose.notSynchronized Bd) e29_2 (⟨rfl, N29_2, rfl⟩) (by decide) (by decide) (fun fs hr => X29_2.returnOut hx Bd.returns (hb hby d29_10) hr)
theorem d19_0 : decode jdk_42_method_154_code 0 = .ok (.getstatic 38, 3) := by decide +kernel
theorem d19_3 : decode jdk_42_method_154_code 3 = .ok (.ifCond .eq 14, 3) := by decide +kernel
theorem d19_6 : decode jdk_42_method_154_code 6 = .ok (.aload_n 0, 1) := by decide +kernel
theorem d19_7 : decode jdk_42_method_154_code 7 = .ok (.getfield 15, 3) := by decide +kernel
theorem d19_10 : decode jdk_42_method_154_code 10 = .ok (.ifCond .ne 7, 3) := by decide +kernel
theorem d19_13 : decode jdk_42_method_154_code 13 = .ok (.iconst 1, 1) := by decide +kernel
theorem d19_14 : decode jdk_42_method_154_code 14 = .ok (.goto 4, 3) := by decide +kernel
theorem d19_18 : decode jdk_42_method_154_code 18 = .ok (.ireturn, 1) := by decide +kernel
theorem pn19 : plainName "java/lang/String" = true := by first | (simp [plainName, overriddenIn]; done) | decide +kernel
theorem ef19 (m : MethodId) (r0 : Addr) : entryFrame m #[(.ref r0)] 1 = mkF m 0 #[.val (.ref r0)] [] := by first | (simp [entryFrame, mkF, argsToLocals, Value.category]; done) | rfl
def Q19 (Z : State) (z : Int32) (h0 : Heap) (n0 : Nat) (w : Option Value) (h : Heap) (L : List Loc) : Prop := w = some (.int z) ∧ Fr n0 L ∧ h = h0
theorem rm19 (l : Launch) (Z : State) (a0 : Array Value) (hw : ∀ d ∈ tables_1, d.before a0 Z = true) (ws : List Jvm.Cond) (r0 : Addr) (cc : Int32) (fv : Value) (ra : Addr) (h0 : Heap) (n0 : Nat) (Z0 : n0 ≤ h0.size) (Scode : Fld Z h0 r0 "java/lang/String" "coder" "B" (.int 0)) (OO : OwnOld Z n0 h0 cc fv ra) : OwnC l Z (⟨"java/lang/String", "isLatin1", "()Z"⟩ : MethodName) (Jvm.Cond.code (⟨"java/lang/String", "isLatin1", "()Z"⟩ : MethodName) jdk_42_method_154_code 1 (some .boolean) :: ws) ({ frames := 0, cells := 0, slots := 0, locals := 0 } : Room) #[(.ref r0)] h0 (Q19 Z (1 : Int32) h0 n0) := by
  refine own_body (plainFor_of_name pn19) (fun m => ef19 m r0) ?_
  intro p e s m below meth c s₁ Bd hZ hml hown e0 hx hby hnm X0
  have N0 := Fr.nil n0
  obtain ⟨O_0, S_c, hcc, S_f, hfv, S_r⟩ := OO
  obtain ⟨T19_1, X19_1, e19_1, st19_1⟩ := getS2 X0 hx hZ hown (host := "") (Or.inl (own_w hw 28 rfl)) Via.refl e0 (S_c.ext O_0.2) (g := (mkF m 0 #[.val (.ref r0)] [])) rfl (hb hby d19_0)
  refine own_fw (A := T19_1.setTop (mkF m 3 #[.val (.ref r0)] [(.int cc)])) st19_1 ?_
  refine own_fw (fun _ => ox_ifNo X19_1.here hx (hb hby d19_3) rfl ((if0 _ _).trans (feq hcc).1)) ?_
  refine own_fw (fun _ => ox_aloadN X19_1.here hx (hb hby d19_6) rfl rfl) ?_
  refine own_gf X19_1 hx hZ hown (own_w hw 40 rfl) Via.refl e19_1 Scode (hb hby d19_7) rfl fun T19_2 X19_2 e19_2 => ?_
  refine own_fw (fun _ => ox_ifNo X19_2.here hx (hb hby d19_10) rfl ((if0 _ _).trans (teq (rfl : (0 : Int32) = (0 : Int32))).2)) ?_
  refine own_fw (fun _ => ox_iconst X19_2.here hx (hb hby d19_13)) ?_
  refine own_fw (fun _ => ox_goto X19_2.here hx (pc0 := 14) (pc' := 18) rfl (hb hby d19_14) (by decide) (by decide)) ?_
  exact own_leaf X19_2 (v := some (.int (nar .boolean (1 : Int32)))) (own_ret Bd.returns) (BodyLoose.notSynchronized Bd) e19_2 (⟨congrArg (fun z => some (Value.int z)) (by decide), N0, rfl⟩) (by decide) (by decide) (fun fs hr => retN X19_2 hx (t := .boolean) Bd.returns (by simp) (hb hby d19_18) hr)
theorem d17_0 : decode jdk_42_method_152_code 0 = .ok (.getstatic 38, 3) := by decide +kernel
theorem d17_3 : decode jdk_42_method_152_code 3 = .ok (.ifCond .eq 10, 3) := by decide +kernel
theorem d17_6 : decode jdk_42_method_152_code 6 = .ok (.aload_n 0, 1) := by decide +kernel
theorem d17_7 : decode jdk_42_method_152_code 7 = .ok (.getfield 15, 3) := by decide +kernel
theorem d17_10 : decode jdk_42_method_152_code 10 = .ok (.goto 4, 3) := by decide +kernel
theorem d17_14 : decode jdk_42_method_152_code 14 = .ok (.ireturn, 1) := by decide +kernel
theorem pn17 : plainName "java/lang/String" = true := by first | (simp [plainName, overriddenIn]; done) | decide +kernel
theorem ef17 (m : MethodId) (r0 : Addr) : entryFrame m #[(.ref r0)] 1 = mkF m 0 #[.val (.ref r0)] [] := by first | (simp [entryFrame, mkF, argsToLocals, Value.category]; done) | rfl
def Q17 (Z : State) (z : Int32) (h0 : Heap) (n0 : Nat) (w : Option Value) (h : Heap) (L : List Loc) : Prop := w = some (.int z) ∧ Fr n0 L ∧ h = h0
theorem rm17 (l : Launch) (Z : State) (a0 : Array Value) (hw : ∀ d ∈ tables_1, d.before a0 Z = true) (ws : List Jvm.Cond) (r0 : Addr) (cc : Int32) (fv : Value) (ra : Addr) (h0 : Heap) (n0 : Nat) (Z0 : n0 ≤ h0.size) (Scode : Fld Z h0 r0 "java/lang/String" "coder" "B" (.int 0)) (OO : OwnOld Z n0 h0 cc fv ra) : OwnC l Z (⟨"java/lang/String", "coder", "()B"⟩ : MethodName) (Jvm.Cond.code (⟨"java/lang/String", "coder", "()B"⟩ : MethodName) jdk_42_method_152_code 1 (some .byte) :: ws) ({ frames := 0, cells := 0, slots := 0, locals := 0 } : Room) #[(.ref r0)] h0 (Q17 Z (0 : Int32) h0 n0) := by
  refine own_body (plainFor_of_name pn17) (fun m => ef17 m r0) ?_
  intro p e s m below meth c s₁ Bd hZ hml hown e0 hx hby hnm X0
  have N0 := Fr.nil n0
  obtain ⟨O_0, S_c, hcc, S_f, hfv, S_r⟩ := OO
  obtain ⟨T17_1, X17_1, e17_1, st17_1⟩ := getS2 X0 hx hZ hown (host := "") (Or.inl (own_w hw 28 rfl)) Via.refl e0 (S_c.ext O_0.2) (g := (mkF m 0 #[.val (.ref r0)] [])) rfl (hb hby d17_0)
  refine own_fw (A := T17_1.setTop (mkF m 3 #[.val (.ref r0)] [(.int cc)])) st17_1 ?_
  refine own_fw (fun _ => ox_ifNo X17_1.here hx (hb hby d17_3) rfl ((if0 _ _).trans (feq hcc).1)) ?_
  refine own_fw (fun _ => ox_aloadN X17_1.here hx (hb hby d17_6) rfl rfl) ?_
  refine own_gf X17_1 hx hZ hown (own_w hw 40 rfl) Via.refl e17_1 Scode (hb hby d17_7) rfl fun T17_2 X17_2 e17_2 => ?_
  refine own_fw (fun _ => ox_goto X17_2.here hx (pc0 := 10) (pc' := 14) rfl (hb hby d17_10) (by decide) (by decide)) ?_
  exact own_leaf X17_2 (v := some (.int (nar .byte (0 : Int32)))) (own_ret Bd.returns) (BodyLoose.notSynchronized Bd) e17_2 (⟨congrArg (fun z => some (Value.int z)) (by decide), N0, rfl⟩) (by decide) (by decide) (fun fs hr => retN X17_2 hx (t := .byte) Bd.returns (by simp) (hb hby d17_14) hr)
theorem d16_0 : decode jdk_42_method_54_code 0 = .ok (.aload_n 0, 1) := by decide +kernel
theorem d16_1 : decode jdk_42_method_54_code 1 = .ok (.getfield 9, 3) := by decide +kernel
theorem d16_4 : decode jdk_42_method_54_code 4 = .ok (.arraylength, 1) := by decide +kernel
theorem d16_5 : decode jdk_42_method_54_code 5 = .ok (.aload_n 0, 1) := by decide +kernel
theorem d16_6 : decode jdk_42_method_54_code 6 = .ok (.invokevirtual 335, 3) := by decide +kernel
theorem d16_9 : decode jdk_42_method_54_code 9 = .ok (.ishr, 1) := by decide +kernel
theorem d16_10 : decode jdk_42_method_54_code 10 = .ok (.ireturn, 1) := by decide +kernel
theorem pn16 : plainName "java/lang/String" = true := by first | (simp [plainName, overriddenIn]; done) | decide +kernel
theorem pd16_0 : parseMethodDescriptor "()B" = some ⟨[], some .byte⟩ := by decide +kernel
theorem ef16 (m : MethodId) (r0 : Addr) : entryFrame m #[(.ref r0)] 1 = mkF m 0 #[.val (.ref r0)] [] := by first | (simp [entryFrame, mkF, argsToLocals, Value.category]; done) | rfl
def Q16 (Z : State) (z : Int32) (h0 : Heap) (n0 : Nat) (w : Option Value) (h : Heap) (L : List Loc) : Prop := w = some (.int z) ∧ Fr n0 L ∧ h = h0
theorem d20_0 : decode cB15 0 = .ok (.iload_n 1, 1) := by decide +kernel
theorem d20_1 : decode cB15 1 = .ok (.aload_n 0, 1) := by decide +kernel
theorem d20_2 : decode cB15 2 = .ok (.arraylength, 1) := by decide +kernel
theorem d20_3 : decode cB15 3 = .ok (.invokestatic 9, 3) := by decide +kernel
theorem d20_6 : decode cB15 6 = .ok (.aload_n 0, 1) := by decide +kernel
theorem d20_7 : decode cB15 7 = .ok (.iload_n 1, 1) := by decide +kernel
theorem d20_8 : decode cB15 8 = .ok (.baload, 1) := by decide +kernel
theorem d20_9 : decode cB15 9 = .ok (.sipush 255, 3) := by decide +kernel
theorem d20_12 : decode cB15 12 = .ok (.iand, 1) := by decide +kernel
theorem d20_13 : decode cB15 13 = .ok (.i2c, 1) := by decide +kernel
theorem d20_14 : decode cB15 14 = .ok (.ireturn, 1) := by decide +kernel
theorem pn20 : plainName "java/lang/StringLatin1" = true := by first | (simp [plainName, overriddenIn]; done) | decide +kernel
theorem pd20_0 : parseMethodDescriptor "(II)V" = some ⟨[.int, .int], none⟩ := by decide +kernel
theorem ef20 (m : MethodId) (r0 : Addr) (p1 : Int32) : entryFrame m #[(.ref r0), (.int p1)] 2 = mkF m 0 #[.val (.ref r0), .val (.int p1)] [] := by first | (simp [entryFrame, mkF, argsToLocals, Value.category]; done) | rfl
def Q20 (Z : State) (z : Int32) (h0 : Heap) (n0 : Nat) (w : Option Value) (h : Heap) (L : List Loc) : Prop := w = some (.int z) ∧ Fr n0 L ∧ h = h0
theorem d18_0 : decode jdk_42_method_56_code 0 = .ok (.aload_n 0, 1) := by decide +kernel
theorem d18_1 : decode jdk_42_method_56_code 1 = .ok (.invokevirtual 492, 3) := by decide +kernel
theorem d18_4 : decode jdk_42_method_56_code 4 = .ok (.ifCond .eq 12, 3) := by decide +kernel
theorem d18_7 : decode jdk_42_method_56_code 7 = .ok (.aload_n 0, 1) := by decide +kernel
theorem d18_8 : decode jdk_42_method_56_code 8 = .ok (.getfield 9, 3) := by decide +kernel
theorem d18_11 : decode jdk_42_method_56_code 11 = .ok (.iload_n 1, 1) := by decide +kernel
theorem d18_12 : decode jdk_42_method_56_code 12 = .ok (.invokestatic 495, 3) := by decide +kernel
theorem d18_15 : decode jdk_42_method_56_code 15 = .ok (.ireturn, 1) := by decide +kernel
theorem pn18 : plainName "java/lang/String" = true := by first | (simp [plainName, overriddenIn]; done) | decide +kernel
theorem pd18_0 : parseMethodDescriptor "()Z" = some ⟨[], some .boolean⟩ := by decide +kernel
theorem pd18_1 : parseMethodDescriptor "([BI)C" = some ⟨[(.array .byte), .int], some .char⟩ := by decide +kernel
theorem ef18 (m : MethodId) (r0 : Addr) (p1 : Int32) : entryFrame m #[(.ref r0), (.int p1)] 2 = mkF m 0 #[.val (.ref r0), .val (.int p1)] [] := by first | (simp [entryFrame, mkF, argsToLocals, Value.category]; done) | rfl
def Q18 (Z : State) (z : Int32) (h0 : Heap) (n0 : Nat) (w : Option Value) (h : Heap) (L : List Loc) : Prop := w = some (.int z) ∧ Fr n0 L ∧ h = h0
theorem rmLN_L (l : Launch) (Z : State) (a0 : Array Value) (hw : ∀ d ∈ tables_1, d.before a0 Z = true) (ws : List Jvm.Cond) (r0 : Addr) (vb : Addr) (kb : ClassId) (x0 : Int32) (x1 : Int32) (x2 : Int32) (x4 : Int32) (cc : Int32) (fv : Value) (ra : Addr) (h0 : Heap) (n0 : Nat) (Z0 : n0 ≤ h0.size) (Et : Exa Z h0 r0 "java/lang/String") (Svt : Fld Z h0 r0 "java/lang/String" "value" "[B" (.ref vb)) (Sct : Fld Z h0 r0 "java/lang/String" "coder" "B" (.int 0)) (Vt : Arv Z h0 vb kb .byte (5 : Int32) [(.int x0), (.int x1), (.int x2), (.int (32 : Int32)), (.int x4)] (.int 0)) (d0 : own_dig x0) (d1 : own_dig x1) (d2 : own_dig x2) (l4 : own_let x4) (OO : OwnOld Z n0 h0 cc fv ra) : OwnC l Z mN17 (Jvm.Cond.code mN17 jdk_42_method_54_code 1 (some .int) :: ws) ({ frames := 1, cells := 0, slots := 0, locals := 13 } : Room) #[(.ref r0)] h0 (Q16 Z (5 : Int32) h0 n0) := by
  refine own_body (plainFor_of_name pn16) (fun m => ef16 m r0) ?_
  intro p e s m below meth c s₁ Bd hZ hml hown e0 hx hby hnm X0
  have N0 := Fr.nil n0
  obtain ⟨O_0, S_c, hcc, S_f, hfv, S_r⟩ := OO
  refine own_fw (fun _ => ox_aloadN X0.here hx (hb hby d16_0) rfl rfl) ?_
  refine own_gf X0 hx hZ hown (own_w hw 42 rfl) Via.refl e0 Svt (hb hby d16_1) rfl fun T16_1 X16_1 e16_1 => ?_
  obtain ⟨cl16_2, Ar16_2, q16_2, S16_2, Ng16_2, Hs16_2, G16_2⟩ := id Vt
  have st16_2 := X16_1.arraylength hx (by rw [e16_1]; exact Ar16_2.1) (State.isArrayOf_alike hZ.alike Ar16_2.2.1) (g := (mkF m 4 #[.val (.ref r0)] [(.ref vb)])) rfl rfl (hb hby d16_4)
  rw [len_of S16_2 Ng16_2] at st16_2
  refine own_fw (A := T16_1.setTop (mkF m 5 #[.val (.ref r0)] [(.int (5 : Int32))])) st16_2 ?_
  refine own_fw (fun _ => ox_aloadN X16_1.here hx (hb hby d16_5) rfl rfl) ?_
  refine own_vc X16_1 hx hZ hown (rm17 l Z a0 hw [] r0 cc fv ra h0 n0 Z0 Sct ⟨O_0, S_c, hcc, S_f, hfv, S_r⟩) (own_w hw 119 rfl) (own_w hw 120 rfl) (own_w hw 122 rfl) (own_w hw 121 rfl) (own_w hw 123 rfl) (own_w hw 19 rfl) (by decide) hml rfl Et e16_1 (hb hby d16_6) rfl rfl (lenOf pd16_0 rfl) (W := 1) rfl (by decide) (by decide) (c' := 0) (s' := 0) rfl rfl (by decide) (by decide) ?_
  rintro _ T16_3 L16_3 X16_3 ⟨rfl, N16_3q, e16_3⟩
  have N16_3 := Fr.app N0 N16_3q
  refine own_fw (fun _ => ox_ishr X16_3.here hx (hb hby d16_9) rfl) ?_
  exact own_leaf X16_3 (v := some (.int (5 : Int32))) (own_ret Bd.returns) (BodyLoose.notSynchronized Bd) e16_3 (⟨congrArg (fun z => some (Value.int z)) (by decide), N16_3, rfl⟩) (by decide) (by decide) (fun fs hr => retI X16_3 hx Bd.returns (hb hby d16_10) hr)
theorem rmLC_L0 (l : Launch) (Z : State) (a0 : Array Value) (hw : ∀ d ∈ tables_1, d.before a0 Z = true) (ws : List Jvm.Cond) (r0 : Addr) (kb : ClassId) (x0 : Int32) (x1 : Int32) (x2 : Int32) (x4 : Int32) (cc : Int32) (fv : Value) (ra : Addr) (h0 : Heap) (n0 : Nat) (Z0 : n0 ≤ h0.size) (V_0 : Arv Z h0 r0 kb .byte (5 : Int32) [(.int x0), (.int x1), (.int x2), (.int (32 : Int32)), (.int x4)] (.int 0)) (d0 : own_dig x0) (d1 : own_dig x1) (d2 : own_dig x2) (l4 : own_let x4) (OO : OwnOld Z n0 h0 cc fv ra) : OwnC l Z mN2 (Jvm.Cond.code mN2 jdk_43_method_2_code 2 (some .char) :: ws) ({ frames := 2, cells := 0, slots := 0, locals := 27 } : Room) #[(.ref r0), (.int (0 : Int32))] h0 (Q20 Z x0 h0 n0) := by
  refine own_body (plainFor_of_name pn20) (fun m => ef20 m r0 (0 : Int32)) ?_
  intro p e s m below meth c s₁ Bd hZ hml hown e0 hx hby hnm X0
  have N0 := Fr.nil n0
  obtain ⟨O_0, S_c, hcc, S_f, hfv, S_r⟩ := OO
  refine own_fw (fun _ => ox_iloadN X0.here hx (hb hby d20_0) rfl) ?_
  refine own_fw (fun _ => ox_aloadN X0.here hx (hb hby d20_1) rfl rfl) ?_
  obtain ⟨cl20_1, Ar20_1, q20_1, S20_1, Ng20_1, Hs20_1, G20_1⟩ := id V_0
  have st20_1 := X0.arraylength hx (by rw [e0]; exact Ar20_1.1) (State.isArrayOf_alike hZ.alike Ar20_1.2.1) (g := (mkF m 2 #[.val (.ref r0), .val (.int (0 : Int32))] [(.ref r0), (.int (0 : Int32))])) rfl rfl (hb hby d20_2)
  rw [len_of S20_1 Ng20_1] at st20_1
  refine own_fw (A := s₁.setTop (mkF m 3 #[.val (.ref r0), .val (.int (0 : Int32))] [(.int (5 : Int32)), (.int (0 : Int32))])) st20_1 ?_
  refine own_sc X0 hx hZ hown (rm21 l Z a0 hw [] (0 : Int32) (5 : Int32) cc fv ra h0 n0 Z0 (by decide) (by decide) ⟨O_0, S_c, hcc, S_f, hfv, S_r⟩) (own_w hw 138 rfl) (own_w hw 139 rfl) (own_w hw 140 rfl) (own_w hw 19 rfl) (by decide) hml rfl e0 (hb hby d20_3) rfl rfl (lenOf pd20_0 rfl) (W := 0) rfl (by decide) (by decide) (c' := 0) (s' := 0) rfl rfl (by decide) (by decide) ?_
  rintro _ T20_2 L20_2 X20_2 ⟨rfl, N20_2q, e20_2⟩
  have N20_2 := Fr.app N0 N20_2q
  refine own_fw (fun _ => ox_aloadN X20_2.here hx (hb hby d20_6) rfl rfl) ?_
  refine own_fw (fun _ => ox_iloadN X20_2.here hx (hb hby d20_7) rfl) ?_
  obtain ⟨cl20_3, Ar20_3, q20_3, S20_3, Ng20_3, Hs20_3, G20_3⟩ := id V_0
  have hin20_3 : ¬ ((0 : Int32) < 0 ∨ cl20_3.slots.size ≤ ((0 : Int32)).toNatClampNeg) := inb_of S20_3 ⟨by decide, by decide⟩
  refine own_fw (A := T20_2.setTop (mkF m 9 #[.val (.ref r0), .val (.int (0 : Int32))] [(.int x0)])) (X20_2.baloadBytes hx (j := (0 : Int32)) (v := (.int x0)) (by rw [e20_2]; exact Ar20_3.1) (State.isArrayOf_alike hZ.alike Ar20_3.2.1) Ar20_3.2.2 hin20_3 (Has.at Hs20_3 hin20_3 rfl) (g := (mkF m 8 #[.val (.ref r0), .val (.int (0 : Int32))] [(.int (0 : Int32)), (.ref r0)])) rfl rfl (hb hby d20_8)) ?_
  refine own_fw (fun _ => ox_sipush X20_2.here hx (hb hby d20_9)) ?_
  refine own_fw (fun _ => ox_iand X20_2.here hx (hb hby d20_12) rfl) ?_
  refine own_fw (fun _ => ox_i2c X20_2.here hx (hb hby d20_13) rfl) ?_
  exact own_leaf X20_2 (v := some (.int (nar .char ((x0 &&& (255 : Int32)).toUInt32.toUInt16.toUInt32.toInt32)))) (own_ret Bd.returns) (BodyLoose.notSynchronized Bd) e20_2 (⟨congrArg (fun z => some (Value.int z)) (own_ch (own_dasc d0)), N20_2, rfl⟩) (by decide) (by decide) (fun fs hr => retN X20_2 hx (t := .char) Bd.returns (by simp) (hb hby d20_14) hr)
theorem rmCA_L0 (l : Launch) (Z : State) (a0 : Array Value) (hw : ∀ d ∈ tables_1, d.before a0 Z = true) (ws : List Jvm.Cond) (r0 : Addr) (vb : Addr) (kb : ClassId) (x0 : Int32) (x1 : Int32) (x2 : Int32) (x4 : Int32) (cc : Int32) (fv : Value) (ra : Addr) (h0 : Heap) (n0 : Nat) (Z0 : n0 ≤ h0.size) (Et : Exa Z h0 r0 "java/lang/String") (Svt : Fld Z h0 r0 "java/lang/String" "value" "[B" (.ref vb)) (Sct : Fld Z h0 r0 "java/lang/String" "coder" "B" (.int 0)) (Vt : Arv Z h0 vb kb .byte (5 : Int32) [(.int x0), (.int x1), (.int x2), (.int (32 : Int32)), (.int x4)] (.int 0)) (d0 : own_dig x0) (d1 : own_dig x1) (d2 : own_dig x2) (l4 : own_let x4) (OO : OwnOld Z n0 h0 cc fv ra) : OwnC l Z mN3 (Jvm.Cond.code mN3 jdk_42_method_56_code 2 (some .char) :: ws) ({ frames := 3, cells := 0, slots := 0, locals := 40 } : Room) #[(.ref r0), (.int (0 : Int32))] h0 (Q18 Z x0 h0 n0) := by
  refine own_body (plainFor_of_name pn18) (fun m => ef18 m r0 (0 : Int32)) ?_
  intro p e s m below meth c s₁ Bd hZ hml hown e0 hx hby hnm X0
  have N0 := Fr.nil n0
  obtain ⟨O_0, S_c, hcc, S_f, hfv, S_r⟩ := OO
  refine own_fw (fun _ => ox_aloadN X0.here hx (hb hby d18_0) rfl rfl) ?_
  refine own_vc X0 hx hZ hown (rm19 l Z a0 hw [] r0 cc fv ra h0 n0 Z0 Sct ⟨O_0, S_c, hcc, S_f, hfv, S_r⟩) (own_w hw 129 rfl) (own_w hw 130 rfl) (own_w hw 132 rfl) (own_w hw 131 rfl) (own_w hw 133 rfl) (own_w hw 19 rfl) (by decide) hml rfl Et e0 (hb hby d18_1) rfl rfl (lenOf pd18_0 rfl) (W := 0) rfl (by decide) (by decide) (c' := 0) (s' := 0) rfl rfl (by decide) (by decide) ?_
  rintro _ T18_1 L18_1 X18_1 ⟨rfl, N18_1q, e18_1⟩
  have N18_1 := Fr.app N0 N18_1q
  refine own_fw (fun _ => ox_ifNo X18_1.here hx (hb hby d18_4) rfl ((if0 _ _).trans (feq (by decide : ¬ ((1 : Int32) = (0 : Int32)))).1)) ?_
  refine own_fw (fun _ => ox_aloadN X18_1.here hx (hb hby d18_7) rfl rfl) ?_
  refine own_gf X18_1 hx hZ hown (own_w hw 42 rfl) Via.refl e18_1 Svt (hb hby d18_8) rfl fun T18_2 X18_2 e18_2 => ?_
  refine own_fw (fun _ => ox_iloadN X18_2.here hx (hb hby d18_11) rfl) ?_
  refine own_sc X18_2 hx hZ hown (rmLC_L0 l Z a0 hw [] vb kb x0 x1 x2 x4 cc fv ra h0 n0 Z0 Vt d0 d1 d2 l4 ⟨O_0, S_c, hcc, S_f, hfv, S_r⟩) (own_w hw 134 rfl) (own_w hw 135 rfl) (own_w hw 137 rfl) (own_w hw 136 rfl) (by decide) hml rfl e18_2 (hb hby d18_12) rfl rfl (lenOf pd18_1 rfl) (W := 0) rfl (by decide) (by decide) (c' := 0) (s' := 0) rfl rfl (by decide) (by decide) ?_
  rintro _ T18_3 L18_3 X18_3 ⟨rfl, N18_3q, e18_3⟩
  have N18_3 := Fr.app N18_1 N18_3q
  exact own_leaf X18_3 (v := some (.int (nar .char x0))) (own_ret Bd.returns) (BodyLoose.notSynchronized Bd) e18_3 (⟨congrArg (fun z => some (Value.int z)) (own_nc (own_dasc d0)), N18_3, rfl⟩) (by decide) (by decide) (fun fs hr => retN X18_3 hx (t := .char) Bd.returns (by simp) (hb hby d18_15) hr)
theorem rmLC_L1 (l : Launch) (Z : State) (a0 : Array Value) (hw : ∀ d ∈ tables_1, d.before a0 Z = true) (ws : List Jvm.Cond) (r0 : Addr) (kb : ClassId) (x0 : Int32) (x1 : Int32) (x2 : Int32) (x4 : Int32) (cc : Int32) (fv : Value) (ra : Addr) (h0 : Heap) (n0 : Nat) (Z0 : n0 ≤ h0.size) (V_0 : Arv Z h0 r0 kb .byte (5 : Int32) [(.int x0), (.int x1), (.int x2), (.int (32 : Int32)), (.int x4)] (.int 0)) (d0 : own_dig x0) (d1 : own_dig x1) (d2 : own_dig x2) (l4 : own_let x4) (OO : OwnOld Z n0 h0 cc fv ra) : OwnC l Z mN2 (Jvm.Cond.code mN2 jdk_43_method_2_code 2 (some .char) :: ws) ({ frames := 2, cells := 0, slots := 0, locals := 27 } : Room) #[(.ref r0), (.int (1 : Int32))] h0 (Q20 Z x1 h0 n0) := by
  refine own_body (plainFor_of_name pn20) (fun m => ef20 m r0 (1 : Int32)) ?_
  intro p e s m below meth c s₁ Bd hZ hml hown e0 hx hby hnm X0
  have N0 := Fr.nil n0
  obtain ⟨O_0, S_c, hcc, S_f, hfv, S_r⟩ := OO
  refine own_fw (fun _ => ox_iloadN X0.here hx (hb hby d20_0) rfl) ?_
  refine own_fw (fun _ => ox_aloadN X0.here hx (hb hby d20_1) rfl rfl) ?_
  obtain ⟨cl20_1, Ar20_1, q20_1, S20_1, Ng20_1, Hs20_1, G20_1⟩ := id V_0
  have st20_1 := X0.arraylength hx (by rw [e0]; exact Ar20_1.1) (State.isArrayOf_alike hZ.alike Ar20_1.2.1) (g := (mkF m 2 #[.val (.ref r0), .val (.int (1 : Int32))] [(.ref r0), (.int (1 : Int32))])) rfl rfl (hb hby d20_2)
  rw [len_of S20_1 Ng20_1] at st20_1
  refine own_fw (A := s₁.setTop (mkF m 3 #[.val (.ref r0), .val (.int (1 : Int32))] [(.int (5 : Int32)), (.int (1 : Int32))])) st20_1 ?_
  refine own_sc X0 hx hZ hown (rm21 l Z a0 hw [] (1 : Int32) (5 : Int32) cc fv ra h0 n0 Z0 (by decide) (by decide) ⟨O_0, S_c, hcc, S_f, hfv, S_r⟩) (own_w hw 138 rfl) (own_w hw 139 rfl) (own_w hw 140 rfl) (own_w hw 19 rfl) (by decide) hml rfl e0 (hb hby d20_3) rfl rfl (lenOf pd20_0 rfl) (W := 0) rfl (by decide) (by decide) (c' := 0) (s' := 0) rfl rfl (by decide) (by decide) ?_
  rintro _ T20_2 L20_2 X20_2 ⟨rfl, N20_2q, e20_2⟩
  have N20_2 := Fr.app N0 N20_2q
  refine own_fw (fun _ => ox_aloadN X20_2.here hx (hb hby d20_6) rfl rfl) ?_
  refine own_fw (fun _ => ox_iloadN X20_2.here hx (hb hby d20_7) rfl) ?_
  obtain ⟨cl20_3, Ar20_3, q20_3, S20_3, Ng20_3, Hs20_3, G20_3⟩ := id V_0
  have hin20_3 : ¬ ((1 : Int32) < 0 ∨ cl20_3.slots.size ≤ ((1 : Int32)).toNatClampNeg) := inb_of S20_3 ⟨by decide, by decide⟩
  refine own_fw (A := T20_2.setTop (mkF m 9 #[.val (.ref r0), .val (.int (1 : Int32))] [(.int x1)])) (X20_2.baloadBytes hx (j := (1 : Int32)) (v := (.int x1)) (by rw [e20_2]; exact Ar20_3.1) (State.isArrayOf_alike hZ.alike Ar20_3.2.1) Ar20_3.2.2 hin20_3 (Has.at Hs20_3 hin20_3 rfl) (g := (mkF m 8 #[.val (.ref r0), .val (.int (1 : Int32))] [(.int (1 : Int32)), (.ref r0)])) rfl rfl (hb hby d20_8)) ?_
  refine own_fw (fun _ => ox_sipush X20_2.here hx (hb hby d20_9)) ?_
  refine own_fw (fun _ => ox_iand X20_2.here hx (hb hby d20_12) rfl) ?_
  refine own_fw (fun _ => ox_i2c X20_2.here hx (hb hby d20_13) rfl) ?_
  exact own_leaf X20_2 (v := some (.int (nar .char ((x1 &&& (255 : Int32)).toUInt32.toUInt16.toUInt32.toInt32)))) (own_ret Bd.returns) (BodyLoose.notSynchronized Bd) e20_2 (⟨congrArg (fun z => some (Value.int z)) (own_ch (own_dasc d1)), N20_2, rfl⟩) (by decide) (by decide) (fun fs hr => retN X20_2 hx (t := .char) Bd.returns (by simp) (hb hby d20_14) hr)
theorem rmCA_L1 (l : Launch) (Z : State) (a0 : Array Value) (hw : ∀ d ∈ tables_1, d.before a0 Z = true) (ws : List Jvm.Cond) (r0 : Addr) (vb : Addr) (kb : ClassId) (x0 : Int32) (x1 : Int32) (x2 : Int32) (x4 : Int32) (cc : Int32) (fv : Value) (ra : Addr) (h0 : Heap) (n0 : Nat) (Z0 : n0 ≤ h0.size) (Et : Exa Z h0 r0 "java/lang/String") (Svt : Fld Z h0 r0 "java/lang/String" "value" "[B" (.ref vb)) (Sct : Fld Z h0 r0 "java/lang/String" "coder" "B" (.int 0)) (Vt : Arv Z h0 vb kb .byte (5 : Int32) [(.int x0), (.int x1), (.int x2), (.int (32 : Int32)), (.int x4)] (.int 0)) (d0 : own_dig x0) (d1 : own_dig x1) (d2 : own_dig x2) (l4 : own_let x4) (OO : OwnOld Z n0 h0 cc fv ra) : OwnC l Z mN3 (Jvm.Cond.code mN3 jdk_42_method_56_code 2 (some .char) :: ws) ({ frames := 3, cells := 0, slots := 0, locals := 40 } : Room) #[(.ref r0), (.int (1 : Int32))] h0 (Q18 Z x1 h0 n0) := by
  refine own_body (plainFor_of_name pn18) (fun m => ef18 m r0 (1 : Int32)) ?_
  intro p e s m below meth c s₁ Bd hZ hml hown e0 hx hby hnm X0
  have N0 := Fr.nil n0
  obtain ⟨O_0, S_c, hcc, S_f, hfv, S_r⟩ := OO
  refine own_fw (fun _ => ox_aloadN X0.here hx (hb hby d18_0) rfl rfl) ?_
  refine own_vc X0 hx hZ hown (rm19 l Z a0 hw [] r0 cc fv ra h0 n0 Z0 Sct ⟨O_0, S_c, hcc, S_f, hfv, S_r⟩) (own_w hw 129 rfl) (own_w hw 130 rfl) (own_w hw 132 rfl) (own_w hw 131 rfl) (own_w hw 133 rfl) (own_w hw 19 rfl) (by decide) hml rfl Et e0 (hb hby d18_1) rfl rfl (lenOf pd18_0 rfl) (W := 0) rfl (by decide) (by decide) (c' := 0) (s' := 0) rfl rfl (by decide) (by decide) ?_
  rintro _ T18_1 L18_1 X18_1 ⟨rfl, N18_1q, e18_1⟩
  have N18_1 := Fr.app N0 N18_1q
  refine own_fw (fun _ => ox_ifNo X18_1.here hx (hb hby d18_4) rfl ((if0 _ _).trans (feq (by decide : ¬ ((1 : Int32) = (0 : Int32)))).1)) ?_
  refine own_fw (fun _ => ox_aloadN X18_1.here hx (hb hby d18_7) rfl rfl) ?_
  refine own_gf X18_1 hx hZ hown (own_w hw 42 rfl) Via.refl e18_1 Svt (hb hby d18_8) rfl fun T18_2 X18_2 e18_2 => ?_
  refine own_fw (fun _ => ox_iloadN X18_2.here hx (hb hby d18_11) rfl) ?_
  refine own_sc X18_2 hx hZ hown (rmLC_L1 l Z a0 hw [] vb kb x0 x1 x2 x4 cc fv ra h0 n0 Z0 Vt d0 d1 d2 l4 ⟨O_0, S_c, hcc, S_f, hfv, S_r⟩) (own_w hw 134 rfl) (own_w hw 135 rfl) (own_w hw 137 rfl) (own_w hw 136 rfl) (by decide) hml rfl e18_2 (hb hby d18_12) rfl rfl (lenOf pd18_1 rfl) (W := 0) rfl (by decide) (by decide) (c' := 0) (s' := 0) rfl rfl (by decide) (by decide) ?_
  rintro _ T18_3 L18_3 X18_3 ⟨rfl, N18_3q, e18_3⟩
  have N18_3 := Fr.app N18_1 N18_3q
  exact own_leaf X18_3 (v := some (.int (nar .char x1))) (own_ret Bd.returns) (BodyLoose.notSynchronized Bd) e18_3 (⟨congrArg (fun z => some (Value.int z)) (own_nc (own_dasc d1)), N18_3, rfl⟩) (by decide) (by decide) (fun fs hr => retN X18_3 hx (t := .char) Bd.returns (by simp) (hb hby d18_15) hr)
theorem rmLC_L2 (l : Launch) (Z : State) (a0 : Array Value) (hw : ∀ d ∈ tables_1, d.before a0 Z = true) (ws : List Jvm.Cond) (r0 : Addr) (kb : ClassId) (x0 : Int32) (x1 : Int32) (x2 : Int32) (x4 : Int32) (cc : Int32) (fv : Value) (ra : Addr) (h0 : Heap) (n0 : Nat) (Z0 : n0 ≤ h0.size) (V_0 : Arv Z h0 r0 kb .byte (5 : Int32) [(.int x0), (.int x1), (.int x2), (.int (32 : Int32)), (.int x4)] (.int 0)) (d0 : own_dig x0) (d1 : own_dig x1) (d2 : own_dig x2) (l4 : own_let x4) (OO : OwnOld Z n0 h0 cc fv ra) : OwnC l Z mN2 (Jvm.Cond.code mN2 jdk_43_method_2_code 2 (some .char) :: ws) ({ frames := 2, cells := 0, slots := 0, locals := 27 } : Room) #[(.ref r0), (.int (2 : Int32))] h0 (Q20 Z x2 h0 n0) := by
  refine own_body (plainFor_of_name pn20) (fun m => ef20 m r0 (2 : Int32)) ?_
  intro p e s m below meth c s₁ Bd hZ hml hown e0 hx hby hnm X0
  have N0 := Fr.nil n0
  obtain ⟨O_0, S_c, hcc, S_f, hfv, S_r⟩ := OO
  refine own_fw (fun _ => ox_iloadN X0.here hx (hb hby d20_0) rfl) ?_
  refine own_fw (fun _ => ox_aloadN X0.here hx (hb hby d20_1) rfl rfl) ?_
  obtain ⟨cl20_1, Ar20_1, q20_1, S20_1, Ng20_1, Hs20_1, G20_1⟩ := id V_0
  have st20_1 := X0.arraylength hx (by rw [e0]; exact Ar20_1.1) (State.isArrayOf_alike hZ.alike Ar20_1.2.1) (g := (mkF m 2 #[.val (.ref r0), .val (.int (2 : Int32))] [(.ref r0), (.int (2 : Int32))])) rfl rfl (hb hby d20_2)
  rw [len_of S20_1 Ng20_1] at st20_1
  refine own_fw (A := s₁.setTop (mkF m 3 #[.val (.ref r0), .val (.int (2 : Int32))] [(.int (5 : Int32)), (.int (2 : Int32))])) st20_1 ?_
  refine own_sc X0 hx hZ hown (rm21 l Z a0 hw [] (2 : Int32) (5 : Int32) cc fv ra h0 n0 Z0 (by decide) (by decide) ⟨O_0, S_c, hcc, S_f, hfv, S_r⟩) (own_w hw 138 rfl) (own_w hw 139 rfl) (own_w hw 140 rfl) (own_w hw 19 rfl) (by decide) hml rfl e0 (hb hby d20_3) rfl rfl (lenOf pd20_0 rfl) (W := 0) rfl (by decide) (by decide) (c' := 0) (s' := 0) rfl rfl (by decide) (by decide) ?_
  rintro _ T20_2 L20_2 X20_2 ⟨rfl, N20_2q, e20_2⟩
  have N20_2 := Fr.app N0 N20_2q
  refine own_fw (fun _ => ox_aloadN X20_2.here hx (hb hby d20_6) rfl rfl) ?_
  refine own_fw (fun _ => ox_iloadN X20_2.here hx (hb hby d20_7) rfl) ?_
  obtain ⟨cl20_3, Ar20_3, q20_3, S20_3, Ng20_3, Hs20_3, G20_3⟩ := id V_0
  have hin20_3 : ¬ ((2 : Int32) < 0 ∨ cl20_3.slots.size ≤ ((2 : Int32)).toNatClampNeg) := inb_of S20_3 ⟨by decide, by decide⟩
  refine own_fw (A := T20_2.setTop (mkF m 9 #[.val (.ref r0), .val (.int (2 : Int32))] [(.int x2)])) (X20_2.baloadBytes hx (j := (2 : Int32)) (v := (.int x2)) (by rw [e20_2]; exact Ar20_3.1) (State.isArrayOf_alike hZ.alike Ar20_3.2.1) Ar20_3.2.2 hin20_3 (Has.at Hs20_3 hin20_3 rfl) (g := (mkF m 8 #[.val (.ref r0), .val (.int (2 : Int32))] [(.int (2 : Int32)), (.ref r0)])) rfl rfl (hb hby d20_8)) ?_
  refine own_fw (fun _ => ox_sipush X20_2.here hx (hb hby d20_9)) ?_
  refine own_fw (fun _ => ox_iand X20_2.here hx (hb hby d20_12) rfl) ?_
  refine own_fw (fun _ => ox_i2c X20_2.here hx (hb hby d20_13) rfl) ?_
  exact own_leaf X20_2 (v := some (.int (nar .char ((x2 &&& (255 : Int32)).toUInt32.toUInt16.toUInt32.toInt32)))) (own_ret Bd.returns) (BodyLoose.notSynchronized Bd) e20_2 (⟨congrArg (fun z => some (Value.int z)) (own_ch (own_dasc d2)), N20_2, rfl⟩) (by decide) (by decide) (fun fs hr => retN X20_2 hx (t := .char) Bd.returns (by simp) (hb hby d20_14) hr)
theorem rmCA_L2 (l : Launch) (Z : State) (a0 : Array Value) (hw : ∀ d ∈ tables_1, d.before a0 Z = true) (ws : List Jvm.Cond) (r0 : Addr) (vb : Addr) (kb : ClassId) (x0 : Int32) (x1 : Int32) (x2 : Int32) (x4 : Int32) (cc : Int32) (fv : Value) (ra : Addr) (h0 : Heap) (n0 : Nat) (Z0 : n0 ≤ h0.size) (Et : Exa Z h0 r0 "java/lang/String") (Svt : Fld Z h0 r0 "java/lang/String" "value" "[B" (.ref vb)) (Sct : Fld Z h0 r0 "java/lang/String" "coder" "B" (.int 0)) (Vt : Arv Z h0 vb kb .byte (5 : Int32) [(.int x0), (.int x1), (.int x2), (.int (32 : Int32)), (.int x4)] (.int 0)) (d0 : own_dig x0) (d1 : own_dig x1) (d2 : own_dig x2) (l4 : own_let x4) (OO : OwnOld Z n0 h0 cc fv ra) : OwnC l Z mN3 (Jvm.Cond.code mN3 jdk_42_method_56_code 2 (some .char) :: ws) ({ frames := 3, cells := 0, slots := 0, locals := 40 } : Room) #[(.ref r0), (.int (2 : Int32))] h0 (Q18 Z x2 h0 n0) := by
  refine own_body (plainFor_of_name pn18) (fun m => ef18 m r0 (2 : Int32)) ?_
  intro p e s m below meth c s₁ Bd hZ hml hown e0 hx hby hnm X0
  have N0 := Fr.nil n0
  obtain ⟨O_0, S_c, hcc, S_f, hfv, S_r⟩ := OO
  refine own_fw (fun _ => ox_aloadN X0.here hx (hb hby d18_0) rfl rfl) ?_
  refine own_vc X0 hx hZ hown (rm19 l Z a0 hw [] r0 cc fv ra h0 n0 Z0 Sct ⟨O_0, S_c, hcc, S_f, hfv, S_r⟩) (own_w hw 129 rfl) (own_w hw 130 rfl) (own_w hw 132 rfl) (own_w hw 131 rfl) (own_w hw 133 rfl) (own_w hw 19 rfl) (by decide) hml rfl Et e0 (hb hby d18_1) rfl rfl (lenOf pd18_0 rfl) (W := 0) rfl (by decide) (by decide) (c' := 0) (s' := 0) rfl rfl (by decide) (by decide) ?_
  rintro _ T18_1 L18_1 X18_1 ⟨rfl, N18_1q, e18_1⟩
  have N18_1 := Fr.app N0 N18_1q
  refine own_fw (fun _ => ox_ifNo X18_1.here hx (hb hby d18_4) rfl ((if0 _ _).trans (feq (by decide : ¬ ((1 : Int32) = (0 : Int32)))).1)) ?_
  refine own_fw (fun _ => ox_aloadN X18_1.here hx (hb hby d18_7) rfl rfl) ?_
  refine own_gf X18_1 hx hZ hown (own_w hw 42 rfl) Via.refl e18_1 Svt (hb hby d18_8) rfl fun T18_2 X18_2 e18_2 => ?_
  refine own_fw (fun _ => ox_iloadN X18_2.here hx (hb hby d18_11) rfl) ?_
  refine own_sc X18_2 hx hZ hown (rmLC_L2 l Z a0 hw [] vb kb x0 x1 x2 x4 cc fv ra h0 n0 Z0 Vt d0 d1 d2 l4 ⟨O_0, S_c, hcc, S_f, hfv, S_r⟩) (own_w hw 134 rfl) (own_w hw 135 rfl) (own_w hw 137 rfl) (own_w hw 136 rfl) (by decide) hml rfl e18_2 (hb hby d18_12) rfl rfl (lenOf pd18_1 rfl) (W := 0) rfl (by decide) (by decide) (c' := 0) (s' := 0) rfl rfl (by decide) (by decide) ?_
  rintro _ T18_3 L18_3 X18_3 ⟨rfl, N18_3q, e18_3⟩
  have N18_3 := Fr.app N18_1 N18_3q
  exact own_leaf X18_3 (v := some (.int (nar .char x2))) (own_ret Bd.returns) (BodyLoose.notSynchronized Bd) e18_3 (⟨congrArg (fun z => some (Value.int z)) (own_nc (own_dasc d2)), N18_3, rfl⟩) (by decide) (by decide) (fun fs hr => retN X18_3 hx (t := .char) Bd.returns (by simp) (hb hby d18_15) hr)
theorem rmLC_L3 (l : Launch) (Z : State) (a0 : Array Value) (hw : ∀ d ∈ tables_1, d.before a0 Z = true) (ws : List Jvm.Cond) (r0 : Addr) (kb : ClassId) (x0 : Int32) (x1 : Int32) (x2 : Int32) (x4 : Int32) (cc : Int32) (fv : Value) (ra : Addr) (h0 : Heap) (n0 : Nat) (Z0 : n0 ≤ h0.size) (V_0 : Arv Z h0 r0 kb .byte (5 : Int32) [(.int x0), (.int x1), (.int x2), (.int (32 : Int32)), (.int x4)] (.int 0)) (d0 : own_dig x0) (d1 : own_dig x1) (d2 : own_dig x2) (l4 : own_let x4) (OO : OwnOld Z n0 h0 cc fv ra) : OwnC l Z mN2 (Jvm.Cond.code mN2 jdk_43_method_2_code 2 (some .char) :: ws) ({ frames := 2, cells := 0, slots := 0, locals := 27 } : Room) #[(.ref r0), (.int (3 : Int32))] h0 (Q20 Z (32 : Int32) h0 n0) := by
  refine own_body (plainFor_of_name pn20) (fun m => ef20 m r0 (3 : Int32)) ?_
  intro p e s m below meth c s₁ Bd hZ hml hown e0 hx hby hnm X0
  have N0 := Fr.nil n0
  obtain ⟨O_0, S_c, hcc, S_f, hfv, S_r⟩ := OO
  refine own_fw (fun _ => ox_iloadN X0.here hx (hb hby d20_0) rfl) ?_
  refine own_fw (fun _ => ox_aloadN X0.here hx (hb hby d20_1) rfl rfl) ?_
  obtain ⟨cl20_1, Ar20_1, q20_1, S20_1, Ng20_1, Hs20_1, G20_1⟩ := id V_0
  have st20_1 := X0.arraylength hx (by rw [e0]; exact Ar20_1.1) (State.isArrayOf_alike hZ.alike Ar20_1.2.1) (g := (mkF m 2 #[.val (.ref r0), .val (.int (3 : Int32))] [(.ref r0), (.int (3 : Int32))])) rfl rfl (hb hby d20_2)
  rw [len_of S20_1 Ng20_1] at st20_1
  refine own_fw (A := s₁.setTop (mkF m 3 #[.val (.ref r0), .val (.int (3 : Int32))] [(.int (5 : Int32)), (.int (3 : Int32))])) st20_1 ?_
  refine own_sc X0 hx hZ hown (rm21 l Z a0 hw [] (3 : Int32) (5 : Int32) cc fv ra h0 n0 Z0 (by decide) (by decide) ⟨O_0, S_c, hcc, S_f, hfv, S_r⟩) (own_w hw 138 rfl) (own_w hw 139 rfl) (own_w hw 140 rfl) (own_w hw 19 rfl) (by decide) hml rfl e0 (hb hby d20_3) rfl rfl (lenOf pd20_0 rfl) (W := 0) rfl (by decide) (by decide) (c' := 0) (s' := 0) rfl rfl (by decide) (by decide) ?_
  rintro _ T20_2 L20_2 X20_2 ⟨rfl, N20_2q, e20_2⟩
  have N20_2 := Fr.app N0 N20_2q
  refine own_fw (fun _ => ox_aloadN X20_2.here hx (hb hby d20_6) rfl rfl) ?_
  refine own_fw (fun _ => ox_iloadN X20_2.here hx (hb hby d20_7) rfl) ?_
  obtain ⟨cl20_3, Ar20_3, q20_3, S20_3, Ng20_3, Hs20_3, G20_3⟩ := id V_0
  have hin20_3 : ¬ ((3 : Int32) < 0 ∨ cl20_3.slots.size ≤ ((3 : Int32)).toNatClampNeg) := inb_of S20_3 ⟨by decide, by decide⟩
  refine own_fw (A := T20_2.setTop (mkF m 9 #[.val (.ref r0), .val (.int (3 : Int32))] [(.int (32 : Int32))])) (X20_2.baloadBytes hx (j := (3 : Int32)) (v := (.int (32 : Int32))) (by rw [e20_2]; exact Ar20_3.1) (State.isArrayOf_alike hZ.alike Ar20_3.2.1) Ar20_3.2.2 hin20_3 (Has.at Hs20_3 hin20_3 rfl) (g := (mkF m 8 #[.val (.ref r0), .val (.int (3 : Int32))] [(.int (3 : Int32)), (.ref r0)])) rfl rfl (hb hby d20_8)) ?_
  refine own_fw (fun _ => ox_sipush X20_2.here hx (hb hby d20_9)) ?_
  refine own_fw (fun _ => ox_iand X20_2.here hx (hb hby d20_12) rfl) ?_
  refine own_fw (fun _ => ox_i2c X20_2.here hx (hb hby d20_13) rfl) ?_
  exact own_leaf X20_2 (v := some (.int (nar .char (((32 : Int32) &&& (255 : Int32)).toUInt32.toUInt16.toUInt32.toInt32)))) (own_ret Bd.returns) (BodyLoose.notSynchronized Bd) e20_2 (⟨congrArg (fun z => some (Value.int z)) (own_ch own_a32), N20_2, rfl⟩) (by decide) (by decide) (fun fs hr => retN X20_2 hx (t := .char) Bd.returns (by simp) (hb hby d20_14) hr)
theorem rmCA_L3 (l : Launch) (Z : State) (a0 : Array Value) (hw : ∀ d ∈ tables_1, d.before a0 Z = true) (ws : List Jvm.Cond) (r0 : Addr) (vb : Addr) (kb : ClassId) (x0 : Int32) (x1 : Int32) (x2 : Int32) (x4 : Int32) (cc : Int32) (fv : Value) (ra : Addr) (h0 : Heap) (n0 : Nat) (Z0 : n0 ≤ h0.size) (Et : Exa Z h0 r0 "java/lang/String") (Svt : Fld Z h0 r0 "java/lang/String" "value" "[B" (.ref vb)) (Sct : Fld Z h0 r0 "java/lang/String" "coder" "B" (.int 0)) (Vt : Arv Z h0 vb kb .byte (5 : Int32) [(.int x0), (.int x1), (.int x2), (.int (32 : Int32)), (.int x4)] (.int 0)) (d0 : own_dig x0) (d1 : own_dig x1) (d2 : own_dig x2) (l4 : own_let x4) (OO : OwnOld Z n0 h0 cc fv ra) : OwnC l Z mN3 (Jvm.Cond.code mN3 jdk_42_method_56_code 2 (some .char) :: ws) ({ frames := 3, cells := 0, slots := 0, locals := 40 } : Room) #[(.ref r0), (.int (3 : Int32))] h0 (Q18 Z (32 : Int32) h0 n0) := by
  refine own_body (plainFor_of_name pn18) (fun m => ef18 m r0 (3 : Int32)) ?_
  intro p e s m below meth c s₁ Bd hZ hml hown e0 hx hby hnm X0
  have N0 := Fr.nil n0
  obtain ⟨O_0, S_c, hcc, S_f, hfv, S_r⟩ := OO
  refine own_fw (fun _ => ox_aloadN X0.here hx (hb hby d18_0) rfl rfl) ?_
  refine own_vc X0 hx hZ hown (rm19 l Z a0 hw [] r0 cc fv ra h0 n0 Z0 Sct ⟨O_0, S_c, hcc, S_f, hfv, S_r⟩) (own_w hw 129 rfl) (own_w hw 130 rfl) (own_w hw 132 rfl) (own_w hw 131 rfl) (own_w hw 133 rfl) (own_w hw 19 rfl) (by decide) hml rfl Et e0 (hb hby d18_1) rfl rfl (lenOf pd18_0 rfl) (W := 0) rfl (by decide) (by decide) (c' := 0) (s' := 0) rfl rfl (by decide) (by decide) ?_
  rintro _ T18_1 L18_1 X18_1 ⟨rfl, N18_1q, e18_1⟩
  have N18_1 := Fr.app N0 N18_1q
  refine own_fw (fun _ => ox_ifNo X18_1.here hx (hb hby d18_4) rfl ((if0 _ _).trans (feq (by decide : ¬ ((1 : Int32) = (0 : Int32)))).1)) ?_
  refine own_fw (fun _ => ox_aloadN X18_1.here hx (hb hby d18_7) rfl rfl) ?_
  refine own_gf X18_1 hx hZ hown (own_w hw 42 rfl) Via.refl e18_1 Svt (hb hby d18_8) rfl fun T18_2 X18_2 e18_2 => ?_
  refine own_fw (fun _ => ox_iloadN X18_2.here hx (hb hby d18_11) rfl) ?_
  refine own_sc X18_2 hx hZ hown (rmLC_L3 l Z a0 hw [] vb kb x0 x1 x2 x4 cc fv ra h0 n0 Z0 Vt d0 d1 d2 l4 ⟨O_0, S_c, hcc, S_f, hfv, S_r⟩) (own_w hw 134 rfl) (own_w hw 135 rfl) (own_w hw 137 rfl) (own_w hw 136 rfl) (by decide) hml rfl e18_2 (hb hby d18_12) rfl rfl (lenOf pd18_1 rfl) (W := 0) rfl (by decide) (by decide) (c' := 0) (s' := 0) rfl rfl (by decide) (by decide) ?_
  rintro _ T18_3 L18_3 X18_3 ⟨rfl, N18_3q, e18_3⟩
  have N18_3 := Fr.app N18_1 N18_3q
  exact own_leaf X18_3 (v := some (.int (nar .char (32 : Int32)))) (own_ret Bd.returns) (BodyLoose.notSynchronized Bd) e18_3 (⟨congrArg (fun z => some (Value.int z)) (own_nc own_a32), N18_3, rfl⟩) (by decide) (by decide) (fun fs hr => retN X18_3 hx (t := .char) Bd.returns (by simp) (hb hby d18_15) hr)
theorem rmLC_L4 (l : Launch) (Z : State) (a0 : Array Value) (hw : ∀ d ∈ tables_1, d.before a0 Z = true) (ws : List Jvm.Cond) (r0 : Addr) (kb : ClassId) (x0 : Int32) (x1 : Int32) (x2 : Int32) (x4 : Int32) (cc : Int32) (fv : Value) (ra : Addr) (h0 : Heap) (n0 : Nat) (Z0 : n0 ≤ h0.size) (V_0 : Arv Z h0 r0 kb .byte (5 : Int32) [(.int x0), (.int x1), (.int x2), (.int (32 : Int32)), (.int x4)] (.int 0)) (d0 : own_dig x0) (d1 : own_dig x1) (d2 : own_dig x2) (l4 : own_let x4) (OO : OwnOld Z n0 h0 cc fv ra) : OwnC l Z mN2 (Jvm.Cond.code mN2 jdk_43_method_2_code 2 (some .char) :: ws) ({ frames := 2, cells := 0, slots := 0, locals := 27 } : Room) #[(.ref r0), (.int (4 : Int32))] h0 (Q20 Z x4 h0 n0) := by
  refine own_body (plainFor_of_name pn20) (fun m => ef20 m r0 (4 : Int32)) ?_
  intro p e s m below meth c s₁ Bd hZ hml hown e0 hx hby hnm X0
  have N0 := Fr.nil n0
  obtain ⟨O_0, S_c, hcc, S_f, hfv, S_r⟩ := OO
  refine own_fw (fun _ => ox_iloadN X0.here hx (hb hby d20_0) rfl) ?_
  refine own_fw (fun _ => ox_aloadN X0.here hx (hb hby d20_1) rfl rfl) ?_
  obtain ⟨cl20_1, Ar20_1, q20_1, S20_1, Ng20_1, Hs20_1, G20_1⟩ := id V_0
  have st20_1 := X0.arraylength hx (by rw [e0]; exact Ar20_1.1) (State.isArrayOf_alike hZ.alike Ar20_1.2.1) (g := (mkF m 2 #[.val (.ref r0), .val (.int (4 : Int32))] [(.ref r0), (.int (4 : Int32))])) rfl rfl (hb hby d20_2)
  rw [len_of S20_1 Ng20_1] at st20_1
  refine own_fw (A := s₁.setTop (mkF m 3 #[.val (.ref r0), .val (.int (4 : Int32))] [(.int (5 : Int32)), (.int (4 : Int32))])) st20_1 ?_
  refine own_sc X0 hx hZ hown (rm21 l Z a0 hw [] (4 : Int32) (5 : Int32) cc fv ra h0 n0 Z0 (by decide) (by decide) ⟨O_0, S_c, hcc, S_f, hfv, S_r⟩) (own_w hw 138 rfl) (own_w hw 139 rfl) (own_w hw 140 rfl) (own_w hw 19 rfl) (by decide) hml rfl e0 (hb hby d20_3) rfl rfl (lenOf pd20_0 rfl) (W := 0) rfl (by decide) (by decide) (c' := 0) (s' := 0) rfl rfl (by decide) (by decide) ?_
  rintro _ T20_2 L20_2 X20_2 ⟨rfl, N20_2q, e20_2⟩
  have N20_2 := Fr.app N0 N20_2q
  refine own_fw (fun _ => ox_aloadN X20_2.here hx (hb hby d20_6) rfl rfl) ?_
  refine own_fw (fun _ => ox_iloadN X20_2.here hx (hb hby d20_7) rfl) ?_
  obtain ⟨cl20_3, Ar20_3, q20_3, S20_3, Ng20_3, Hs20_3, G20_3⟩ := id V_0
  have hin20_3 : ¬ ((4 : Int32) < 0 ∨ cl20_3.slots.size ≤ ((4 : Int32)).toNatClampNeg) := inb_of S20_3 ⟨by decide, by decide⟩
  refine own_fw (A := T20_2.setTop (mkF m 9 #[.val (.ref r0), .val (.int (4 : Int32))] [(.int x4)])) (X20_2.baloadBytes hx (j := (4 : Int32)) (v := (.int x4)) (by rw [e20_2]; exact Ar20_3.1) (State.isArrayOf_alike hZ.alike Ar20_3.2.1) Ar20_3.2.2 hin20_3 (Has.at Hs20_3 hin20_3 rfl) (g := (mkF m 8 #[.val (.ref r0), .val (.int (4 : Int32))] [(.int (4 : Int32)), (.ref r0)])) rfl rfl (hb hby d20_8)) ?_
  refine own_fw (fun _ => ox_sipush X20_2.here hx (hb hby d20_9)) ?_
  refine own_fw (fun _ => ox_iand X20_2.here hx (hb hby d20_12) rfl) ?_
  refine own_fw (fun _ => ox_i2c X20_2.here hx (hb hby d20_13) rfl) ?_
  exact own_leaf X20_2 (v := some (.int (nar .char ((x4 &&& (255 : Int32)).toUInt32.toUInt16.toUInt32.toInt32)))) (own_ret Bd.returns) (BodyLoose.notSynchronized Bd) e20_2 (⟨congrArg (fun z => some (Value.int z)) (own_ch (own_lasc l4)), N20_2, rfl⟩) (by decide) (by decide) (fun fs hr => retN X20_2 hx (t := .char) Bd.returns (by simp) (hb hby d20_14) hr)
theorem rmCA_L4 (l : Launch) (Z : State) (a0 : Array Value) (hw : ∀ d ∈ tables_1, d.before a0 Z = true) (ws : List Jvm.Cond) (r0 : Addr) (vb : Addr) (kb : ClassId) (x0 : Int32) (x1 : Int32) (x2 : Int32) (x4 : Int32) (cc : Int32) (fv : Value) (ra : Addr) (h0 : Heap) (n0 : Nat) (Z0 : n0 ≤ h0.size) (Et : Exa Z h0 r0 "java/lang/String") (Svt : Fld Z h0 r0 "java/lang/String" "value" "[B" (.ref vb)) (Sct : Fld Z h0 r0 "java/lang/String" "coder" "B" (.int 0)) (Vt : Arv Z h0 vb kb .byte (5 : Int32) [(.int x0), (.int x1), (.int x2), (.int (32 : Int32)), (.int x4)] (.int 0)) (d0 : own_dig x0) (d1 : own_dig x1) (d2 : own_dig x2) (l4 : own_let x4) (OO : OwnOld Z n0 h0 cc fv ra) : OwnC l Z mN3 (Jvm.Cond.code mN3 jdk_42_method_56_code 2 (some .char) :: ws) ({ frames := 3, cells := 0, slots := 0, locals := 40 } : Room) #[(.ref r0), (.int (4 : Int32))] h0 (Q18 Z x4 h0 n0) := by
  refine own_body (plainFor_of_name pn18) (fun m => ef18 m r0 (4 : Int32)) ?_
  intro p e s m below meth c s₁ Bd hZ hml hown e0 hx hby hnm X0
  have N0 := Fr.nil n0
  obtain ⟨O_0, S_c, hcc, S_f, hfv, S_r⟩ := OO
  refine own_fw (fun _ => ox_aloadN X0.here hx (hb hby d18_0) rfl rfl) ?_
  refine own_vc X0 hx hZ hown (rm19 l Z a0 hw [] r0 cc fv ra h0 n0 Z0 Sct ⟨O_0, S_c, hcc, S_f, hfv, S_r⟩) (own_w hw 129 rfl) (own_w hw 130 rfl) (own_w hw 132 rfl) (own_w hw 131 rfl) (own_w hw 133 rfl) (own_w hw 19 rfl) (by decide) hml rfl Et e0 (hb hby d18_1) rfl rfl (lenOf pd18_0 rfl) (W := 0) rfl (by decide) (by decide) (c' := 0) (s' := 0) rfl rfl (by decide) (by decide) ?_
  rintro _ T18_1 L18_1 X18_1 ⟨rfl, N18_1q, e18_1⟩
  have N18_1 := Fr.app N0 N18_1q
  refine own_fw (fun _ => ox_ifNo X18_1.here hx (hb hby d18_4) rfl ((if0 _ _).trans (feq (by decide : ¬ ((1 : Int32) = (0 : Int32)))).1)) ?_
  refine own_fw (fun _ => ox_aloadN X18_1.here hx (hb hby d18_7) rfl rfl) ?_
  refine own_gf X18_1 hx hZ hown (own_w hw 42 rfl) Via.refl e18_1 Svt (hb hby d18_8) rfl fun T18_2 X18_2 e18_2 => ?_
  refine own_fw (fun _ => ox_iloadN X18_2.here hx (hb hby d18_11) rfl) ?_
  refine own_sc X18_2 hx hZ hown (rmLC_L4 l Z a0 hw [] vb kb x0 x1 x2 x4 cc fv ra h0 n0 Z0 Vt d0 d1 d2 l4 ⟨O_0, S_c, hcc, S_f, hfv, S_r⟩) (own_w hw 134 rfl) (own_w hw 135 rfl) (own_w hw 137 rfl) (own_w hw 136 rfl) (by decide) hml rfl e18_2 (hb hby d18_12) rfl rfl (lenOf pd18_1 rfl) (W := 0) rfl (by decide) (by decide) (c' := 0) (s' := 0) rfl rfl (by decide) (by decide) ?_
  rintro _ T18_3 L18_3 X18_3 ⟨rfl, N18_3q, e18_3⟩
  have N18_3 := Fr.app N18_1 N18_3q
  exact own_leaf X18_3 (v := some (.int (nar .char x4))) (own_ret Bd.returns) (BodyLoose.notSynchronized Bd) e18_3 (⟨congrArg (fun z => some (Value.int z)) (own_nc (own_lasc l4)), N18_3, rfl⟩) (by decide) (by decide) (fun fs hr => retN X18_3 hx (t := .char) Bd.returns (by simp) (hb hby d18_15) hr)
theorem rmLN_Z (l : Launch) (Z : State) (a0 : Array Value) (hw : ∀ d ∈ tables_1, d.before a0 Z = true) (ws : List Jvm.Cond) (r0 : Addr) (vb : Addr) (kb : ClassId) (cc : Int32) (fv : Value) (ra : Addr) (h0 : Heap) (n0 : Nat) (Z0 : n0 ≤ h0.size) (Et : Exa Z h0 r0 "java/lang/String") (Svt : Fld Z h0 r0 "java/lang/String" "value" "[B" (.ref vb)) (Sct : Fld Z h0 r0 "java/lang/String" "coder" "B" (.int 0)) (Vt : Arv Z h0 vb kb .byte (4 : Int32) [(.int (48 : Int32)), (.int (32 : Int32)), (.int (90 : Int32)), (.int (90 : Int32))] (.int 0)) (OO : OwnOld Z n0 h0 cc fv ra) : OwnC l Z mN17 (Jvm.Cond.code mN17 jdk_42_method_54_code 1 (some .int) :: ws) ({ frames := 1, cells := 0, slots := 0, locals := 13 } : Room) #[(.ref r0)] h0 (Q16 Z (4 : Int32) h0 n0) := by
  refine own_body (plainFor_of_name pn16) (fun m => ef16 m r0) ?_
  intro p e s m below meth c s₁ Bd hZ hml hown e0 hx hby hnm X0
  have N0 := Fr.nil n0
  obtain ⟨O_0, S_c, hcc, S_f, hfv, S_r⟩ := OO
  refine own_fw (fun _ => ox_aloadN X0.here hx (hb hby d16_0) rfl rfl) ?_
  refine own_gf X0 hx hZ hown (own_w hw 42 rfl) Via.refl e0 Svt (hb hby d16_1) rfl fun T16_1 X16_1 e16_1 => ?_
  obtain ⟨cl16_2, Ar16_2, q16_2, S16_2, Ng16_2, Hs16_2, G16_2⟩ := id Vt
  have st16_2 := X16_1.arraylength hx (by rw [e16_1]; exact Ar16_2.1) (State.isArrayOf_alike hZ.alike Ar16_2.2.1) (g := (mkF m 4 #[.val (.ref r0)] [(.ref vb)])) rfl rfl (hb hby d16_4)
  rw [len_of S16_2 Ng16_2] at st16_2
  refine own_fw (A := T16_1.setTop (mkF m 5 #[.val (.ref r0)] [(.int (4 : Int32))])) st16_2 ?_
  refine own_fw (fun _ => ox_aloadN X16_1.here hx (hb hby d16_5) rfl rfl) ?_
  refine own_vc X16_1 hx hZ hown (rm17 l Z a0 hw [] r0 cc fv ra h0 n0 Z0 Sct ⟨O_0, S_c, hcc, S_f, hfv, S_r⟩) (own_w hw 119 rfl) (own_w hw 120 rfl) (own_w hw 122 rfl) (own_w hw 121 rfl) (own_w hw 123 rfl) (own_w hw 19 rfl) (by decide) hml rfl Et e16_1 (hb hby d16_6) rfl rfl (lenOf pd16_0 rfl) (W := 1) rfl (by decide) (by decide) (c' := 0) (s' := 0) rfl rfl (by decide) (by decide) ?_
  rintro _ T16_3 L16_3 X16_3 ⟨rfl, N16_3q, e16_3⟩
  have N16_3 := Fr.app N0 N16_3q
  refine own_fw (fun _ => ox_ishr X16_3.here hx (hb hby d16_9) rfl) ?_
  exact own_leaf X16_3 (v := some (.int (4 : Int32))) (own_ret Bd.returns) (BodyLoose.notSynchronized Bd) e16_3 (⟨congrArg (fun z => some (Value.int z)) (by decide), N16_3, rfl⟩) (by decide) (by decide) (fun fs hr => retI X16_3 hx Bd.returns (hb hby d16_10) hr)
theorem rmLC_Z0 (l : Launch) (Z : State) (a0 : Array Value) (hw : ∀ d ∈ tables_1, d.before a0 Z = true) (ws : List Jvm.Cond) (r0 : Addr) (kb : ClassId) (cc : Int32) (fv : Value) (ra : Addr) (h0 : Heap) (n0 : Nat) (Z0 : n0 ≤ h0.size) (V_0 : Arv Z h0 r0 kb .byte (4 : Int32) [(.int (48 : Int32)), (.int (32 : Int32)), (.int (90 : Int32)), (.int (90 : Int32))] (.int 0)) (OO : OwnOld Z n0 h0 cc fv ra) : OwnC l Z mN2 (Jvm.Cond.code mN2 jdk_43_method_2_code 2 (some .char) :: ws) ({ frames := 2, cells := 0, slots := 0, locals := 27 } : Room) #[(.ref r0), (.int (0 : Int32))] h0 (Q20 Z (48 : Int32) h0 n0) := by
  refine own_body (plainFor_of_name pn20) (fun m => ef20 m r0 (0 : Int32)) ?_
  intro p e s m below meth c s₁ Bd hZ hml hown e0 hx hby hnm X0
  have N0 := Fr.nil n0
  obtain ⟨O_0, S_c, hcc, S_f, hfv, S_r⟩ := OO
  refine own_fw (fun _ => ox_iloadN X0.here hx (hb hby d20_0) rfl) ?_
  refine own_fw (fun _ => ox_aloadN X0.here hx (hb hby d20_1) rfl rfl) ?_
  obtain ⟨cl20_1, Ar20_1, q20_1, S20_1, Ng20_1, Hs20_1, G20_1⟩ := id V_0
  have st20_1 := X0.arraylength hx (by rw [e0]; exact Ar20_1.1) (State.isArrayOf_alike hZ.alike Ar20_1.2.1) (g := (mkF m 2 #[.val (.ref r0), .val (.int (0 : Int32))] [(.ref r0), (.int (0 : Int32))])) rfl rfl (hb hby d20_2)
  rw [len_of S20_1 Ng20_1] at st20_1
  refine own_fw (A := s₁.setTop (mkF m 3 #[.val (.ref r0), .val (.int (0 : Int32))] [(.int (4 : Int32)), (.int (0 : Int32))])) st20_1 ?_
  refine own_sc X0 hx hZ hown (rm21 l Z a0 hw [] (0 : Int32) (4 : Int32) cc fv ra h0 n0 Z0 (by decide) (by decide) ⟨O_0, S_c, hcc, S_f, hfv, S_r⟩) (own_w hw 138 rfl) (own_w hw 139 rfl) (own_w hw 140 rfl) (own_w hw 19 rfl) (by decide) hml rfl e0 (hb hby d20_3) rfl rfl (lenOf pd20_0 rfl) (W := 0) rfl (by decide) (by decide) (c' := 0) (s' := 0) rfl rfl (by decide) (by decide) ?_
  rintro _ T20_2 L20_2 X20_2 ⟨rfl, N20_2q, e20_2⟩
  have N20_2 := Fr.app N0 N20_2q
  refine own_fw (fun _ => ox_aloadN X20_2.here hx (hb hby d20_6) rfl rfl) ?_
  refine own_fw (fun _ => ox_iloadN X20_2.here hx (hb hby d20_7) rfl) ?_
  obtain ⟨cl20_3, Ar20_3, q20_3, S20_3, Ng20_3, Hs20_3, G20_3⟩ := id V_0
  have hin20_3 : ¬ ((0 : Int32) < 0 ∨ cl20_3.slots.size ≤ ((0 : Int32)).toNatClampNeg) := inb_of S20_3 ⟨by decide, by decide⟩
  refine own_fw (A := T20_2.setTop (mkF m 9 #[.val (.ref r0), .val (.int (0 : Int32))] [(.int (48 : Int32))])) (X20_2.baloadBytes hx (j := (0 : Int32)) (v := (.int (48 : Int32))) (by rw [e20_2]; exact Ar20_3.1) (State.isArrayOf_alike hZ.alike Ar20_3.2.1) Ar20_3.2.2 hin20_3 (Has.at Hs20_3 hin20_3 rfl) (g := (mkF m 8 #[.val (.ref r0), .val (.int (0 : Int32))] [(.int (0 : Int32)), (.ref r0)])) rfl rfl (hb hby d20_8)) ?_
  refine own_fw (fun _ => ox_sipush X20_2.here hx (hb hby d20_9)) ?_
  refine own_fw (fun _ => ox_iand X20_2.here hx (hb hby d20_12) rfl) ?_
  refine own_fw (fun _ => ox_i2c X20_2.here hx (hb hby d20_13) rfl) ?_
  exact own_leaf X20_2 (v := some (.int (nar .char (((48 : Int32) &&& (255 : Int32)).toUInt32.toUInt16.toUInt32.toInt32)))) (own_ret Bd.returns) (BodyLoose.notSynchronized Bd) e20_2 (⟨congrArg (fun z => some (Value.int z)) (own_ch own_a48), N20_2, rfl⟩) (by decide) (by decide) (fun fs hr => retN X20_2 hx (t := .char) Bd.returns (by simp) (hb hby d20_14) hr)
theorem rmCA_Z0 (l : Launch) (Z : State) (a0 : Array Value) (hw : ∀ d ∈ tables_1, d.before a0 Z = true) (ws : List Jvm.Cond) (r0 : Addr) (vb : Addr) (kb : ClassId) (cc : Int32) (fv : Value) (ra : Addr) (h0 : Heap) (n0 : Nat) (Z0 : n0 ≤ h0.size) (Et : Exa Z h0 r0 "java/lang/String") (Svt : Fld Z h0 r0 "java/lang/String" "value" "[B" (.ref vb)) (Sct : Fld Z h0 r0 "java/lang/String" "coder" "B" (.int 0)) (Vt : Arv Z h0 vb kb .byte (4 : Int32) [(.int (48 : Int32)), (.int (32 : Int32)), (.int (90 : Int32)), (.int (90 : Int32))] (.int 0)) (OO : OwnOld Z n0 h0 cc fv ra) : OwnC l Z mN3 (Jvm.Cond.code mN3 jdk_42_method_56_code 2 (some .char) :: ws) ({ frames := 3, cells := 0, slots := 0, locals := 40 } : Room) #[(.ref r0), (.int (0 : Int32))] h0 (Q18 Z (48 : Int32) h0 n0) := by
  refine own_body (plainFor_of_name pn18) (fun m => ef18 m r0 (0 : Int32)) ?_
  intro p e s m below meth c s₁ Bd hZ hml hown e0 hx hby hnm X0
  have N0 := Fr.nil n0
  obtain ⟨O_0, S_c, hcc, S_f, hfv, S_r⟩ := OO
  refine own_fw (fun _ => ox_aloadN X0.here hx (hb hby d18_0) rfl rfl) ?_
  refine own_vc X0 hx hZ hown (rm19 l Z a0 hw [] r0 cc fv ra h0 n0 Z0 Sct ⟨O_0, S_c, hcc, S_f, hfv, S_r⟩) (own_w hw 129 rfl) (own_w hw 130 rfl) (own_w hw 132 rfl) (own_w hw 131 rfl) (own_w hw 133 rfl) (own_w hw 19 rfl) (by decide) hml rfl Et e0 (hb hby d18_1) rfl rfl (lenOf pd18_0 rfl) (W := 0) rfl (by decide) (by decide) (c' := 0) (s' := 0) rfl rfl (by decide) (by decide) ?_
  rintro _ T18_1 L18_1 X18_1 ⟨rfl, N18_1q, e18_1⟩
  have N18_1 := Fr.app N0 N18_1q
  refine own_fw (fun _ => ox_ifNo X18_1.here hx (hb hby d18_4) rfl ((if0 _ _).trans (feq (by decide : ¬ ((1 : Int32) = (0 : Int32)))).1)) ?_
  refine own_fw (fun _ => ox_aloadN X18_1.here hx (hb hby d18_7) rfl rfl) ?_
  refine own_gf X18_1 hx hZ hown (own_w hw 42 rfl) Via.refl e18_1 Svt (hb hby d18_8) rfl fun T18_2 X18_2 e18_2 => ?_
  refine own_fw (fun _ => ox_iloadN X18_2.here hx (hb hby d18_11) rfl) ?_
  refine own_sc X18_2 hx hZ hown (rmLC_Z0 l Z a0 hw [] vb kb cc fv ra h0 n0 Z0 Vt ⟨O_0, S_c, hcc, S_f, hfv, S_r⟩) (own_w hw 134 rfl) (own_w hw 135 rfl) (own_w hw 137 rfl) (own_w hw 136 rfl) (by decide) hml rfl e18_2 (hb hby d18_12) rfl rfl (lenOf pd18_1 rfl) (W := 0) rfl (by decide) (by decide) (c' := 0) (s' := 0) rfl rfl (by decide) (by decide) ?_
  rintro _ T18_3 L18_3 X18_3 ⟨rfl, N18_3q, e18_3⟩
  have N18_3 := Fr.app N18_1 N18_3q
  exact own_leaf X18_3 (v := some (.int (nar .char (48 : Int32)))) (own_ret Bd.returns) (BodyLoose.notSynchronized Bd) e18_3 (⟨congrArg (fun z => some (Value.int z)) (own_nc own_a48), N18_3, rfl⟩) (by decide) (by decide) (fun fs hr => retN X18_3 hx (t := .char) Bd.returns (by simp) (hb hby d18_15) hr)
theorem rmLC_Z1 (l : Launch) (Z : State) (a0 : Array Value) (hw : ∀ d ∈ tables_1, d.before a0 Z = true) (ws : List Jvm.Cond) (r0 : Addr) (kb : ClassId) (cc : Int32) (fv : Value) (ra : Addr) (h0 : Heap) (n0 : Nat) (Z0 : n0 ≤ h0.size) (V_0 : Arv Z h0 r0 kb .byte (4 : Int32) [(.int (48 : Int32)), (.int (32 : Int32)), (.int (90 : Int32)), (.int (90 : Int32))] (.int 0)) (OO : OwnOld Z n0 h0 cc fv ra) : OwnC l Z mN2 (Jvm.Cond.code mN2 jdk_43_method_2_code 2 (some .char) :: ws) ({ frames := 2, cells := 0, slots := 0, locals := 27 } : Room) #[(.ref r0), (.int (1 : Int32))] h0 (Q20 Z (32 : Int32) h0 n0) := by
  refine own_body (plainFor_of_name pn20) (fun m => ef20 m r0 (1 : Int32)) ?_
  intro p e s m below meth c s₁ Bd hZ hml hown e0 hx hby hnm X0
  have N0 := Fr.nil n0
  obtain ⟨O_0, S_c, hcc, S_f, hfv, S_r⟩ := OO
  refine own_fw (fun _ => ox_iloadN X0.here hx (hb hby d20_0) rfl) ?_
  refine own_fw (fun _ => ox_aloadN X0.here hx (hb hby d20_1) rfl rfl) ?_
  obtain ⟨cl20_1, Ar20_1, q20_1, S20_1, Ng20_1, Hs20_1, G20_1⟩ := id V_0
  have st20_1 := X0.arraylength hx (by rw [e0]; exact Ar20_1.1) (State.isArrayOf_alike hZ.alike Ar20_1.2.1) (g := (mkF m 2 #[.val (.ref r0), .val (.int (1 : Int32))] [(.ref r0), (.int (1 : Int32))])) rfl rfl (hb hby d20_2)
  rw [len_of S20_1 Ng20_1] at st20_1
  refine own_fw (A := s₁.setTop (mkF m 3 #[.val (.ref r0), .val (.int (1 : Int32))] [(.int (4 : Int32)), (.int (1 : Int32))])) st20_1 ?_
  refine own_sc X0 hx hZ hown (rm21 l Z a0 hw [] (1 : Int32) (4 : Int32) cc fv ra h0 n0 Z0 (by decide) (by decide) ⟨O_0, S_c, hcc, S_f, hfv, S_r⟩) (own_w hw 138 rfl) (own_w hw 139 rfl) (own_w hw 140 rfl) (own_w hw 19 rfl) (by decide) hml rfl e0 (hb hby d20_3) rfl rfl (lenOf pd20_0 rfl) (W := 0) rfl (by decide) (by decide) (c' := 0) (s' := 0) rfl rfl (by decide) (by decide) ?_
  rintro _ T20_2 L20_2 X20_2 ⟨rfl, N20_2q, e20_2⟩
  have N20_2 := Fr.app N0 N20_2q
  refine own_fw (fun _ => ox_aloadN X20_2.here hx (hb hby d20_6) rfl rfl) ?_
  refine own_fw (fun _ => ox_iloadN X20_2.here hx (hb hby d20_7) rfl) ?_
  obtain ⟨cl20_3, Ar20_3, q20_3, S20_3, Ng20_3, Hs20_3, G20_3⟩ := id V_0
  have hin20_3 : ¬ ((1 : Int32) < 0 ∨ cl20_3.slots.size ≤ ((1 : Int32)).toNatClampNeg) := inb_of S20_3 ⟨by decide, by decide⟩
  refine own_fw (A := T20_2.setTop (mkF m 9 #[.val (.ref r0), .val (.int (1 : Int32))] [(.int (32 : Int32))])) (X20_2.baloadBytes hx (j := (1 : Int32)) (v := (.int (32 : Int32))) (by rw [e20_2]; exact Ar20_3.1) (State.isArrayOf_alike hZ.alike Ar20_3.2.1) Ar20_3.2.2 hin20_3 (Has.at Hs20_3 hin20_3 rfl) (g := (mkF m 8 #[.val (.ref r0), .val (.int (1 : Int32))] [(.int (1 : Int32)), (.ref r0)])) rfl rfl (hb hby d20_8)) ?_
  refine own_fw (fun _ => ox_sipush X20_2.here hx (hb hby d20_9)) ?_
  refine own_fw (fun _ => ox_iand X20_2.here hx (hb hby d20_12) rfl) ?_
  refine own_fw (fun _ => ox_i2c X20_2.here hx (hb hby d20_13) rfl) ?_
  exact own_leaf X20_2 (v := some (.int (nar .char (((32 : Int32) &&& (255 : Int32)).toUInt32.toUInt16.toUInt32.toInt32)))) (own_ret Bd.returns) (BodyLoose.notSynchronized Bd) e20_2 (⟨congrArg (fun z => some (Value.int z)) (own_ch own_a32), N20_2, rfl⟩) (by decide) (by decide) (fun fs hr => retN X20_2 hx (t := .char) Bd.returns (by simp) (hb hby d20_14) hr)
theorem rmCA_Z1 (l : Launch) (Z : State) (a0 : Array Value) (hw : ∀ d ∈ tables_1, d.before a0 Z = true) (ws : List Jvm.Cond) (r0 : Addr) (vb : Addr) (kb : ClassId) (cc : Int32) (fv : Value) (ra : Addr) (h0 : Heap) (n0 : Nat) (Z0 : n0 ≤ h0.size) (Et : Exa Z h0 r0 "java/lang/String") (Svt : Fld Z h0 r0 "java/lang/String" "value" "[B" (.ref vb)) (Sct : Fld Z h0 r0 "java/lang/String" "coder" "B" (.int 0)) (Vt : Arv Z h0 vb kb .byte (4 : Int32) [(.int (48 : Int32)), (.int (32 : Int32)), (.int (90 : Int32)), (.int (90 : Int32))] (.int 0)) (OO : OwnOld Z n0 h0 cc fv ra) : OwnC l Z mN3 (Jvm.Cond.code mN3 jdk_42_method_56_code 2 (some .char) :: ws) ({ frames := 3, cells := 0, slots := 0, locals := 40 } : Room) #[(.ref r0), (.int (1 : Int32))] h0 (Q18 Z (32 : Int32) h0 n0) := by
  refine own_body (plainFor_of_name pn18) (fun m => ef18 m r0 (1 : Int32)) ?_
  intro p e s m below meth c s₁ Bd hZ hml hown e0 hx hby hnm X0
  have N0 := Fr.nil n0
  obtain ⟨O_0, S_c, hcc, S_f, hfv, S_r⟩ := OO
  refine own_fw (fun _ => ox_aloadN X0.here hx (hb hby d18_0) rfl rfl) ?_
  refine own_vc X0 hx hZ hown (rm19 l Z a0 hw [] r0 cc fv ra h0 n0 Z0 Sct ⟨O_0, S_c, hcc, S_f, hfv, S_r⟩) (own_w hw 129 rfl) (own_w hw 130 rfl) (own_w hw 132 rfl) (own_w hw 131 rfl) (own_w hw 133 rfl) (own_w hw 19 rfl) (by decide) hml rfl Et e0 (hb hby d18_1) rfl rfl (lenOf pd18_0 rfl) (W := 0) rfl (by decide) (by decide) (c' := 0) (s' := 0) rfl rfl (by decide) (by decide) ?_
  rintro _ T18_1 L18_1 X18_1 ⟨rfl, N18_1q, e18_1⟩
  have N18_1 := Fr.app N0 N18_1q
  refine own_fw (fun _ => ox_ifNo X18_1.here hx (hb hby d18_4) rfl ((if0 _ _).trans (feq (by decide : ¬ ((1 : Int32) = (0 : Int32)))).1)) ?_
  refine own_fw (fun _ => ox_aloadN X18_1.here hx (hb hby d18_7) rfl rfl) ?_
  refine own_gf X18_1 hx hZ hown (own_w hw 42 rfl) Via.refl e18_1 Svt (hb hby d18_8) rfl fun T18_2 X18_2 e18_2 => ?_
  refine own_fw (fun _ => ox_iloadN X18_2.here hx (hb hby d18_11) rfl) ?_
  refine own_sc X18_2 hx hZ hown (rmLC_Z1 l Z a0 hw [] vb kb cc fv ra h0 n0 Z0 Vt ⟨O_0, S_c, hcc, S_f, hfv, S_r⟩) (own_w hw 134 rfl) (own_w hw 135 rfl) (own_w hw 137 rfl) (own_w hw 136 rfl) (by decide) hml rfl e18_2 (hb hby d18_12) rfl rfl (lenOf pd18_1 rfl) (W := 0) rfl (by decide) (by decide) (c' := 0) (s' := 0) rfl rfl (by decide) (by decide) ?_
  rintro _ T18_3 L18_3 X18_3 ⟨rfl, N18_3q, e18_3⟩
  have N18_3 := Fr.app N18_1 N18_3q
  exact own_leaf X18_3 (v := some (.int (nar .char (32 : Int32)))) (own_ret Bd.returns) (BodyLoose.notSynchronized Bd) e18_3 (⟨congrArg (fun z => some (Value.int z)) (own_nc own_a32), N18_3, rfl⟩) (by decide) (by decide) (fun fs hr => retN X18_3 hx (t := .char) Bd.returns (by simp) (hb hby d18_15) hr)
theorem rmLC_Z2 (l : Launch) (Z : State) (a0 : Array Value) (hw : ∀ d ∈ tables_1, d.before a0 Z = true) (ws : List Jvm.Cond) (r0 : Addr) (kb : ClassId) (cc : Int32) (fv : Value) (ra : Addr) (h0 : Heap) (n0 : Nat) (Z0 : n0 ≤ h0.size) (V_0 : Arv Z h0 r0 kb .byte (4 : Int32) [(.int (48 : Int32)), (.int (32 : Int32)), (.int (90 : Int32)), (.int (90 : Int32))] (.int 0)) (OO : OwnOld Z n0 h0 cc fv ra) : OwnC l Z mN2 (Jvm.Cond.code mN2 jdk_43_method_2_code 2 (some .char) :: ws) ({ frames := 2, cells := 0, slots := 0, locals := 27 } : Room) #[(.ref r0), (.int (2 : Int32))] h0 (Q20 Z (90 : Int32) h0 n0) := by
  refine own_body (plainFor_of_name pn20) (fun m => ef20 m r0 (2 : Int32)) ?_
  intro p e s m below meth c s₁ Bd hZ hml hown e0 hx hby hnm X0
  have N0 := Fr.nil n0
  obtain ⟨O_0, S_c, hcc, S_f, hfv, S_r⟩ := OO
  refine own_fw (fun _ => ox_iloadN X0.here hx (hb hby d20_0) rfl) ?_
  refine own_fw (fun _ => ox_aloadN X0.here hx (hb hby d20_1) rfl rfl) ?_
  obtain ⟨cl20_1, Ar20_1, q20_1, S20_1, Ng20_1, Hs20_1, G20_1⟩ := id V_0
  have st20_1 := X0.arraylength hx (by rw [e0]; exact Ar20_1.1) (State.isArrayOf_alike hZ.alike Ar20_1.2.1) (g := (mkF m 2 #[.val (.ref r0), .val (.int (2 : Int32))] [(.ref r0), (.int (2 : Int32))])) rfl rfl (hb hby d20_2)
  rw [len_of S20_1 Ng20_1] at st20_1
  refine own_fw (A := s₁.setTop (mkF m 3 #[.val (.ref r0), .val (.int (2 : Int32))] [(.int (4 : Int32)), (.int (2 : Int32))])) st20_1 ?_
  refine own_sc X0 hx hZ hown (rm21 l Z a0 hw [] (2 : Int32) (4 : Int32) cc fv ra h0 n0 Z0 (by decide) (by decide) ⟨O_0, S_c, hcc, S_f, hfv, S_r⟩) (own_w hw 138 rfl) (own_w hw 139 rfl) (own_w hw 140 rfl) (own_w hw 19 rfl) (by decide) hml rfl e0 (hb hby d20_3) rfl rfl (lenOf pd20_0 rfl) (W := 0) rfl (by decide) (by decide) (c' := 0) (s' := 0) rfl rfl (by decide) (by decide) ?_
  rintro _ T20_2 L20_2 X20_2 ⟨rfl, N20_2q, e20_2⟩
  have N20_2 := Fr.app N0 N20_2q
  refine own_fw (fun _ => ox_aloadN X20_2.here hx (hb hby d20_6) rfl rfl) ?_
  refine own_fw (fun _ => ox_iloadN X20_2.here hx (hb hby d20_7) rfl) ?_
  obtain ⟨cl20_3, Ar20_3, q20_3, S20_3, Ng20_3, Hs20_3, G20_3⟩ := id V_0
  have hin20_3 : ¬ ((2 : Int32) < 0 ∨ cl20_3.slots.size ≤ ((2 : Int32)).toNatClampNeg) := inb_of S20_3 ⟨by decide, by decide⟩
  refine own_fw (A := T20_2.setTop (mkF m 9 #[.val (.ref r0), .val (.int (2 : Int32))] [(.int (90 : Int32))])) (X20_2.baloadBytes hx (j := (2 : Int32)) (v := (.int (90 : Int32))) (by rw [e20_2]; exact Ar20_3.1) (State.isArrayOf_alike hZ.alike Ar20_3.2.1) Ar20_3.2.2 hin20_3 (Has.at Hs20_3 hin20_3 rfl) (g := (mkF m 8 #[.val (.ref r0), .val (.int (2 : Int32))] [(.int (2 : Int32)), (.ref r0)])) rfl rfl (hb hby d20_8)) ?_
  refine own_fw (fun _ => ox_sipush X20_2.here hx (hb hby d20_9)) ?_
  refine own_fw (fun _ => ox_iand X20_2.here hx (hb hby d20_12) rfl) ?_
  refine own_fw (fun _ => ox_i2c X20_2.here hx (hb hby d20_13) rfl) ?_
  exact own_leaf X20_2 (v := some (.int (nar .char (((90 : Int32) &&& (255 : Int32)).toUInt32.toUInt16.toUInt32.toInt32)))) (own_ret Bd.returns) (BodyLoose.notSynchronized Bd) e20_2 (⟨congrArg (fun z => some (Value.int z)) (own_ch own_a90), N20_2, rfl⟩) (by decide) (by decide) (fun fs hr => retN X20_2 hx (t := .char) Bd.returns (by simp) (hb hby d20_14) hr)
theorem rmCA_Z2 (l : Launch) (Z : State) (a0 : Array Value) (hw : ∀ d ∈ tables_1, d.before a0 Z = true) (ws : List Jvm.Cond) (r0 : Addr) (vb : Addr) (kb : ClassId) (cc : Int32) (fv : Value) (ra : Addr) (h0 : Heap) (n0 : Nat) (Z0 : n0 ≤ h0.size) (Et : Exa Z h0 r0 "java/lang/String") (Svt : Fld Z h0 r0 "java/lang/String" "value" "[B" (.ref vb)) (Sct : Fld Z h0 r0 "java/lang/String" "coder" "B" (.int 0)) (Vt : Arv Z h0 vb kb .byte (4 : Int32) [(.int (48 : Int32)), (.int (32 : Int32)), (.int (90 : Int32)), (.int (90 : Int32))] (.int 0)) (OO : OwnOld Z n0 h0 cc fv ra) : OwnC l Z mN3 (Jvm.Cond.code mN3 jdk_42_method_56_code 2 (some .char) :: ws) ({ frames := 3, cells := 0, slots := 0, locals := 40 } : Room) #[(.ref r0), (.int (2 : Int32))] h0 (Q18 Z (90 : Int32) h0 n0) := by
  refine own_body (plainFor_of_name pn18) (fun m => ef18 m r0 (2 : Int32)) ?_
  intro p e s m below meth c s₁ Bd hZ hml hown e0 hx hby hnm X0
  have N0 := Fr.nil n0
  obtain ⟨O_0, S_c, hcc, S_f, hfv, S_r⟩ := OO
  refine own_fw (fun _ => ox_aloadN X0.here hx (hb hby d18_0) rfl rfl) ?_
  refine own_vc X0 hx hZ hown (rm19 l Z a0 hw [] r0 cc fv ra h0 n0 Z0 Sct ⟨O_0, S_c, hcc, S_f, hfv, S_r⟩) (own_w hw 129 rfl) (own_w hw 130 rfl) (own_w hw 132 rfl) (own_w hw 131 rfl) (own_w hw 133 rfl) (own_w hw 19 rfl) (by decide) hml rfl Et e0 (hb hby d18_1) rfl rfl (lenOf pd18_0 rfl) (W := 0) rfl (by decide) (by decide) (c' := 0) (s' := 0) rfl rfl (by decide) (by decide) ?_
  rintro _ T18_1 L18_1 X18_1 ⟨rfl, N18_1q, e18_1⟩
  have N18_1 := Fr.app N0 N18_1q
  refine own_fw (fun _ => ox_ifNo X18_1.here hx (hb hby d18_4) rfl ((if0 _ _).trans (feq (by decide : ¬ ((1 : Int32) = (0 : Int32)))).1)) ?_
  refine own_fw (fun _ => ox_aloadN X18_1.here hx (hb hby d18_7) rfl rfl) ?_
  refine own_gf X18_1 hx hZ hown (own_w hw 42 rfl) Via.refl e18_1 Svt (hb hby d18_8) rfl fun T18_2 X18_2 e18_2 => ?_
  refine own_fw (fun _ => ox_iloadN X18_2.here hx (hb hby d18_11) rfl) ?_
  refine own_sc X18_2 hx hZ hown (rmLC_Z2 l Z a0 hw [] vb kb cc fv ra h0 n0 Z0 Vt ⟨O_0, S_c, hcc, S_f, hfv, S_r⟩) (own_w hw 134 rfl) (own_w hw 135 rfl) (own_w hw 137 rfl) (own_w hw 136 rfl) (by decide) hml rfl e18_2 (hb hby d18_12) rfl rfl (lenOf pd18_1 rfl) (W := 0) rfl (by decide) (by decide) (c' := 0) (s' := 0) rfl rfl (by decide) (by decide) ?_
  rintro _ T18_3 L18_3 X18_3 ⟨rfl, N18_3q, e18_3⟩
  have N18_3 := Fr.app N18_1 N18_3q
  exact own_leaf X18_3 (v := some (.int (nar .char (90 : Int32)))) (own_ret Bd.returns) (BodyLoose.notSynchronized Bd) e18_3 (⟨congrArg (fun z => some (Value.int z)) (own_nc own_a90), N18_3, rfl⟩) (by decide) (by decide) (fun fs hr => retN X18_3 hx (t := .char) Bd.returns (by simp) (hb hby d18_15) hr)
theorem d25_0 : decode cB21 0 = .ok (.iload_n 0, 1) := by decide +kernel
theorem d25_1 : decode cB21 1 = .ok (.bipush 48, 2) := by decide +kernel
theorem d25_3 : decode cB21 3 = .ok (.if_icmp .lt 13, 3) := by decide +kernel
theorem d25_6 : decode cB21 6 = .ok (.iload_n 0, 1) := by decide +kernel
theorem d25_7 : decode cB21 7 = .ok (.bipush 57, 2) := by decide +kernel
theorem d25_9 : decode cB21 9 = .ok (.if_icmp .gt 7, 3) := by decide +kernel
theorem d25_12 : decode cB21 12 = .ok (.iconst 1, 1) := by decide +kernel
theorem d25_13 : decode cB21 13 = .ok (.goto 4, 3) := by decide +kernel
theorem d25_16 : decode cB21 16 = .ok (.iconst 0, 1) := by decide +kernel
theorem d25_17 : decode cB21 17 = .ok (.ireturn, 1) := by decide +kernel
theorem pn25 : plainName "com/example/copperline/copperline/Lexer" = true := by first | (simp [plainName, overriddenIn]; done) | decide +kernel
theorem ef25 (m : MethodId) (p0 : Int32) : entryFrame m #[(.int p0)] 1 = mkF m 0 #[.val (.int p0)] [] := by first | (simp [entryFrame, mkF, argsToLocals, Value.category]; done) | rfl
def f_dig (p0 : Int32) : Int32 := (if p0 < (48 : Int32) then (nar .boolean (0 : Int32)) else (if (57 : Int32) < p0 then (nar .boolean (0 : Int32)) else (nar .boolean (1 : Int32))))
def Q25 (Z : State) (z : Int32) (h0 : Heap) (n0 : Nat) (w : Option Value) (h : Heap) (L : List Loc) : Prop := w = some (.int z) ∧ Fr n0 L ∧ h = h0
theorem rm25 (l : Launch) (Z : State) (a0 : Array Value) (hw : ∀ d ∈ tables_1, d.before a0 Z = true) (ws : List Jvm.Cond) (p0 : Int32) (h0 : Heap) (n0 : Nat) (Z0 : n0 ≤ h0.size) : OwnC l Z (⟨"com/example/copperline/copperline/Lexer", "isDigit", "(C)Z"⟩ : MethodName) (Jvm.Cond.code (⟨"com/example/copperline/copperline/Lexer", "isDigit", "(C)Z"⟩ : MethodName) prog_36_method_28_code 1 (some .boolean) :: ws) ({ frames := 0, cells := 0, slots := 0, locals := 0 } : Room) #[(.int p0)] h0 (Q25 Z (f_dig p0) h0 n0) := by
  refine own_body (plainFor_of_name pn25) (fun m => ef25 m p0) ?_
  intro p e s m below meth c s₁ Bd hZ hml hown e0 hx hby hnm X0
  have N0 := Fr.nil n0
  refine own_fw (fun _ => ox_iloadN X0.here hx (hb hby d25_0) rfl) ?_
  refine own_fw (fun _ => ox_bipush X0.here hx (hb hby d25_1)) ?_
  by_cases hc25_1 : p0 < (48 : Int32)
  · refine own_fw (fun _ => ox_icmpYes X0.here hx (pc0 := 3) (pc' := 16) rfl (hb hby d25_3) rfl (tlt hc25_1).1 (by decide) (by decide)) ?_
    refine own_fw (fun _ => ox_iconst X0.here hx (hb hby d25_16)) ?_
    exact own_leaf X0 (v := some (.int (nar .boolean (0 : Int32)))) (own_ret Bd.returns) (BodyLoose.notSynchronized Bd) e0 (⟨by rw [f_dig, if_pos hc25_1], N0, rfl⟩) (by decide) (by decide) (fun fs hr => retN X0 hx (t := .boolean) Bd.returns (by simp) (hb hby d25_17) hr)
  · refine own_fw (fun _ => ox_icmpNo X0.here hx (hb hby d25_3) rfl (flt hc25_1).1) ?_
    refine own_fw (fun _ => ox_iloadN X0.here hx (hb hby d25_6) rfl) ?_
    refine own_fw (fun _ => ox_bipush X0.here hx (hb hby d25_7)) ?_
    by_cases hc25_2 : (57 : Int32) < p0
    · refine own_fw (fun _ => ox_icmpYes X0.here hx (pc0 := 9) (pc' := 16) rfl (hb hby d25_9) rfl (tlt hc25_2).2.2.1 (by decide) (by decide)) ?_
      refine own_fw (fun _ => ox_iconst X0.here hx (hb hby d25_16)) ?_
      exact own_leaf X0 (v := some (.int (nar .boolean (0 : Int32)))) (own_ret Bd.returns) (BodyLoose.notSynchronized Bd) e0 (⟨by rw [f_dig, if_neg hc25_1, if_pos hc25_2], N0, rfl⟩) (by decide) (by decide) (fun fs hr => retN X0 hx (t := .boolean) Bd.returns (by simp) (hb hby d25_17) hr)
    · refine own_fw (fun _ => ox_icmpNo X0.here hx (hb hby d25_9) rfl (flt hc25_2).2.2.1) ?_
      refine own_fw (fun _ => ox_iconst X0.here hx (hb hby d25_12)) ?_
      refine own_fw (fun _ => ox_goto X0.here hx (pc0 := 13) (pc' := 17) rfl (hb hby d25_13) (by decide) (by decide)) ?_
      exact own_leaf X0 (v := some (.int (nar .boolean (1 : Int32)))) (own_ret Bd.returns) (BodyLoose.notSynchronized Bd) e0 (⟨by rw [f_dig, if_neg hc25_1, if_neg hc25_2], N0, rfl⟩) (by decide) (by decide) (fun fs hr => retN X0 hx (t := .boolean) Bd.returns (by simp) (hb hby d25_17) hr)
theorem own_dg {x : Int32} (h : own_dig x) : ¬ f_dig x = 0 := by
  obtain ⟨k, rfl⟩ := h
  exact (by decide : ∀ k : Fin 10, ¬ f_dig (Int32.ofNat (48 + k.val)) = 0) k
def own_num (x0 x1 x2 : Int32) : Int32 := ((((((0 : Int32) + (x0 - (48 : Int32))) * (10 : Int32)) + (x1 - (48 : Int32))) * (10 : Int32)) + (x2 - (48 : Int32)))
theorem own_k1 {x0 : Int32} (d0 : own_dig x0) : ¬ ((0 : Int32) + (x0 - (48 : Int32))) < (0 : Int32) ∧ ¬ (65529 : Int32) < ((0 : Int32) + (x0 - (48 : Int32))) := by
  obtain ⟨k0, rfl⟩ := d0
  exact (by decide : ∀ k0 : Fin 10, ¬ ((0 : Int32) + ((Int32.ofNat (48 + k0.val)) - (48 : Int32))) < (0 : Int32) ∧ ¬ (65529 : Int32) < ((0 : Int32) + ((Int32.ofNat (48 + k0.val)) - (48 : Int32)))) k0
theorem own_k2 {x0 x1 : Int32} (d0 : own_dig x0) (d1 : own_dig x1) : ¬ ((((0 : Int32) + (x0 - (48 : Int32))) * (10 : Int32)) + (x1 - (48 : Int32))) < (0 : Int32) ∧ ¬ (65529 : Int32) < ((((0 : Int32) + (x0 - (48 : Int32))) * (10 : Int32)) + (x1 - (48 : Int32))) := by
  obtain ⟨k0, rfl⟩ := d0
  obtain ⟨k1, rfl⟩ := d1
  exact (by decide : ∀ k0 k1 : Fin 10, ¬ ((((0 : Int32) + ((Int32.ofNat (48 + k0.val)) - (48 : Int32))) * (10 : Int32)) + ((Int32.ofNat (48 + k1.val)) - (48 : Int32))) < (0 : Int32) ∧ ¬ (65529 : Int32) < ((((0 : Int32) + ((Int32.ofNat (48 + k0.val)) - (48 : Int32))) * (10 : Int32)) + ((Int32.ofNat (48 + k1.val)) - (48 : Int32)))) k0 k1
theorem own_k3 {x0 x1 x2 : Int32} (d0 : own_dig x0) (d1 : own_dig x1) (d2 : own_dig x2) : ¬ ((((((0 : Int32) + (x0 - (48 : Int32))) * (10 : Int32)) + (x1 - (48 : Int32))) * (10 : Int32)) + (x2 - (48 : Int32))) < (0 : Int32) ∧ ¬ (65529 : Int32) < ((((((0 : Int32) + (x0 - (48 : Int32))) * (10 : Int32)) + (x1 - (48 : Int32))) * (10 : Int32)) + (x2 - (48 : Int32))) := by
  obtain ⟨k0, rfl⟩ := d0
  obtain ⟨k1, rfl⟩ := d1
  obtain ⟨k2, rfl⟩ := d2
  exact (by decide : ∀ k0 k1 k2 : Fin 10, ¬ ((((((0 : Int32) + ((Int32.ofNat (48 + k0.val)) - (48 : Int32))) * (10 : Int32)) + ((Int32.ofNat (48 + k1.val)) - (48 : Int32))) * (10 : Int32)) + ((Int32.ofNat (48 + k2.val)) - (48 : Int32))) < (0 : Int32) ∧ ¬ (65529 : Int32) < ((((((0 : Int32) + ((Int32.ofNat (48 + k0.val)) - (48 : Int32))) * (10 : Int32)) + ((Int32.ofNat (48 + k1.val)) - (48 : Int32))) * (10 : Int32)) + ((Int32.ofNat (48 + k2.val)) - (48 : Int32)))) k0 k1 k2
theorem d24_0 : decode cB16 0 = .ok (.iload_n 1, 1) := by decide +kernel
theorem d24_1 : decode cB16 1 = .ok (.aload_n 0, 1) := by decide +kernel
theorem d24_2 : decode cB16 2 = .ok (.getfield 13, 3) := by decide +kernel
theorem d24_5 : decode cB16 5 = .ok (.invokevirtual 27, 3) := by decide +kernel
theorem d24_8 : decode cB16 8 = .ok (.if_icmp .ge 14, 3) := by decide +kernel
theorem d24_11 : decode cB16 11 = .ok (.aload_n 0, 1) := by decide +kernel
theorem d24_12 : decode cB16 12 = .ok (.getfield 13, 3) := by decide +kernel
theorem d24_15 : decode cB16 15 = .ok (.iload_n 1, 1) := by decide +kernel
theorem d24_16 : decode cB16 16 = .ok (.invokevirtual 33, 3) := by decide +kernel
theorem d24_19 : decode cB16 19 = .ok (.goto 4, 3) := by decide +kernel
theorem d24_23 : decode cB16 23 = .ok (.ireturn, 1) := by decide +kernel
theorem pn24 : plainName "com/example/copperline/copperline/Lexer" = true := by first | (simp [plainName, overriddenIn]; done) | decide +kernel
theorem pd24_0 : parseMethodDescriptor "()I" = some ⟨[], some .int⟩ := by decide +kernel
theorem pd24_1 : parseMethodDescriptor "(I)C" = some ⟨[.int], some .char⟩ := by decide +kernel
theorem ef24 (m : MethodId) (r0 : Addr) (p1 : Int32) : entryFrame m #[(.ref r0), (.int p1)] 2 = mkF m 0 #[.val (.ref r0), .val (.int p1)] [] := by first | (simp [entryFrame, mkF, argsToLocals, Value.category]; done) | rfl
def Q24 (Z : State) (z : Int32) (h0 : Heap) (n0 : Nat) (w : Option Value) (h : Heap) (L : List Loc) : Prop := w = some (.int z) ∧ Fr n0 L ∧ h = h0
theorem d23_0 : decode cB17 0 = .ok (.iload_n 1, 1) := by decide +kernel
theorem d23_1 : decode cB17 1 = .ok (.istore_n 2, 1) := by decide +kernel
theorem d23_2 : decode cB17 2 = .ok (.aload_n 0, 1) := by decide +kernel
theorem d23_3 : decode cB17 3 = .ok (.iload_n 2, 1) := by decide +kernel
theorem d23_4 : decode cB17 4 = .ok (.invokevirtual 82, 3) := by decide +kernel
theorem d23_7 : decode cB17 7 = .ok (.invokestatic 128, 3) := by decide +kernel
theorem d23_10 : decode cB17 10 = .ok (.ifCond .eq 9, 3) := by decide +kernel
theorem d23_13 : decode cB17 13 = .ok (.iinc 2 1, 3) := by decide +kernel
theorem d23_16 : decode cB17 16 = .ok (.goto (-14), 3) := by decide +kernel
theorem d23_19 : decode cB17 19 = .ok (.iload_n 2, 1) := by decide +kernel
theorem d23_20 : decode cB17 20 = .ok (.ireturn, 1) := by decide +kernel
theorem pn23 : plainName "com/example/copperline/copperline/Lexer" = true := by first | (simp [plainName, overriddenIn]; done) | decide +kernel
theorem pd23_0 : parseMethodDescriptor "(I)C" = some ⟨[.int], some .char⟩ := by decide +kernel
theorem pd23_1 : parseMethodDescriptor "(C)Z" = some ⟨[.char], some .boolean⟩ := by decide +kernel
theorem ef23 (m : MethodId) (r0 : Addr) (p1 : Int32) : entryFrame m #[(.ref r0), (.int p1)] 3 = mkF m 0 #[.val (.ref r0), .val (.int p1), .unset] [] := by first | (simp [entryFrame, mkF, argsToLocals, Value.category]; done) | rfl
def Q23 (Z : State) (z : Int32) (h0 : Heap) (n0 : Nat) (w : Option Value) (h : Heap) (L : List Loc) : Prop := w = some (.int z) ∧ Fr n0 L ∧ h = h0
theorem d15_0 : decode cB9 0 = .ok (.aload_n 0, 1) := by decide +kernel
theorem d15_1 : decode cB9 1 = .ok (.getfield 17, 3) := by decide +kernel
theorem d15_4 : decode cB9 4 = .ok (.aload_n 0, 1) := by decide +kernel
theorem d15_5 : decode cB9 5 = .ok (.getfield 13, 3) := by decide +kernel
theorem d15_8 : decode cB9 8 = .ok (.invokevirtual 27, 3) := by decide +kernel
theorem d15_11 : decode cB9 11 = .ok (.if_icmp .ge 32, 3) := by decide +kernel
theorem d15_14 : decode cB9 14 = .ok (.aload_n 0, 1) := by decide +kernel
theorem d15_15 : decode cB9 15 = .ok (.getfield 13, 3) := by decide +kernel
theorem d15_18 : decode cB9 18 = .ok (.aload_n 0, 1) := by decide +kernel
theorem d15_19 : decode cB9 19 = .ok (.getfield 17, 3) := by decide +kernel
theorem d15_22 : decode cB9 22 = .ok (.invokevirtual 33, 3) := by decide +kernel
theorem d15_25 : decode cB9 25 = .ok (.bipush 32, 2) := by decide +kernel
theorem d15_27 : decode cB9 27 = .ok (.if_icmp .ne 16, 3) := by decide +kernel
theorem d15_30 : decode cB9 30 = .ok (.aload_n 0, 1) := by decide +kernel
theorem d15_31 : decode cB9 31 = .ok (.dup, 1) := by decide +kernel
theorem d15_32 : decode cB9 32 = .ok (.getfield 17, 3) := by decide +kernel
theorem d15_35 : decode cB9 35 = .ok (.iconst 1, 1) := by decide +kernel
theorem d15_36 : decode cB9 36 = .ok (.iadd, 1) := by decide +kernel
theorem d15_37 : decode cB9 37 = .ok (.putfield 17, 3) := by decide +kernel
theorem d15_40 : decode cB9 40 = .ok (.goto (-40), 3) := by decide +kernel
theorem d15_43 : decode cB9 43 = .ok (.return_, 1) := by decide +kernel
theorem pn15 : plainName "com/example/copperline/copperline/Lexer" = true := by first | (simp [plainName, overriddenIn]; done) | decide +kernel
theorem pd15_0 : parseMethodDescriptor "()I" = some ⟨[], some .int⟩ := by decide +kernel
theorem pd15_1 : parseMethodDescriptor "(I)C" = some ⟨[.int], some .char⟩ := by decide +kernel
theorem ef15 (m : MethodId) (r0 : Addr) : entryFrame m #[(.ref r0)] 1 = mkF m 0 #[.val (.ref r0)] [] := by first | (simp [entryFrame, mkF, argsToLocals, Value.category]; done) | rfl
def Q15 (Z : State) (r0 tx : Addr) (z : Int32) (h0 : Heap) (n0 : Nat) (w : Option Value) (h : Heap) (L : List Loc) : Prop := w = none ∧ Fr n0 L ∧ Keep h0 h [r0] ∧ Exa Z h r0 "com/example/copperline/copperline/Lexer" ∧ Fld Z h r0 "com/example/copperline/copperline/Lexer" "text" "Ljava/lang/String;" (.ref tx) ∧ Fld Z h r0 "com/example/copperline/copperline/Lexer" "position" "I" (.int z)
theorem d14_0 : decode cB1 0 = .ok (.aload_n 0, 1) := by decide +kernel
theorem d14_1 : decode cB1 1 = .ok (.invokevirtual 24, 3) := by decide +kernel
theorem d14_4 : decode cB1 4 = .ok (.aload_n 0, 1) := by decide +kernel
theorem d14_5 : decode cB1 5 = .ok (.aload_n 0, 1) := by decide +kernel
theorem d14_6 : decode cB1 6 = .ok (.getfield 17, 3) := by decide +kernel
theorem d14_9 : decode cB1 9 = .ok (.invokevirtual 110, 3) := by decide +kernel
theorem d14_12 : decode cB1 12 = .ok (.istore_n 1, 1) := by decide +kernel
theorem d14_13 : decode cB1 13 = .ok (.iload_n 1, 1) := by decide +kernel
theorem d14_14 : decode cB1 14 = .ok (.aload_n 0, 1) := by decide +kernel
theorem d14_15 : decode cB1 15 = .ok (.getfield 17, 3) := by decide +kernel
theorem d14_18 : decode cB1 18 = .ok (.if_icmp .le 7, 3) := by decide +kernel
theorem d14_21 : decode cB1 21 = .ok (.iconst 0, 1) := by decide +kernel
theorem d14_22 : decode cB1 22 = .ok (.goto 4, 3) := by decide +kernel
theorem d14_26 : decode cB1 26 = .ok (.istore_n 2, 1) := by decide +kernel
theorem d14_27 : decode cB1 27 = .ok (.aload_n 0, 1) := by decide +kernel
theorem d14_28 : decode cB1 28 = .ok (.getfield 17, 3) := by decide +kernel
theorem d14_31 : decode cB1 31 = .ok (.istore_n 3, 1) := by decide +kernel
theorem d14_32 : decode cB1 32 = .ok (.iload_n 3, 1) := by decide +kernel
theorem d14_33 : decode cB1 33 = .ok (.iload_n 1, 1) := by decide +kernel
theorem d14_34 : decode cB1 34 = .ok (.if_icmp .ge 38, 3) := by decide +kernel
theorem d14_37 : decode cB1 37 = .ok (.iload_n 2, 1) := by decide +kernel
theorem d14_38 : decode cB1 38 = .ok (.ifCond .lt 34, 3) := by decide +kernel
theorem d14_41 : decode cB1 41 = .ok (.iload_n 2, 1) := by decide +kernel
theorem d14_42 : decode cB1 42 = .ok (.bipush 10, 2) := by decide +kernel
theorem d14_44 : decode cB1 44 = .ok (.imul, 1) := by decide +kernel
theorem d14_45 : decode cB1 45 = .ok (.aload_n 0, 1) := by decide +kernel
theorem d14_46 : decode cB1 46 = .ok (.getfield 13, 3) := by decide +kernel
theorem d14_49 : decode cB1 49 = .ok (.iload_n 3, 1) := by decide +kernel
theorem d14_50 : decode cB1 50 = .ok (.invokevirtual 33, 3) := by decide +kernel
theorem d14_53 : decode cB1 53 = .ok (.bipush 48, 2) := by decide +kernel
theorem d14_55 : decode cB1 55 = .ok (.isub, 1) := by decide +kernel
theorem d14_56 : decode cB1 56 = .ok (.iadd, 1) := by decide +kernel
theorem d14_57 : decode cB1 57 = .ok (.istore_n 2, 1) := by decide +kernel
theorem d14_58 : decode cB1 58 = .ok (.iload_n 2, 1) := by decide +kernel
theorem d14_59 : decode cB1 59 = .ok (.ldc 199, 2) := by decide +kernel
theorem d14_61 : decode cB1 61 = .ok (.if_icmp .le 5, 3) := by decide +kernel
theorem d14_66 : decode cB1 66 = .ok (.iinc 3 1, 3) := by decide +kernel
theorem d14_69 : decode cB1 69 = .ok (.goto (-37), 3) := by decide +kernel
theorem d14_72 : decode cB1 72 = .ok (.iload_n 2, 1) := by decide +kernel
theorem d14_73 : decode cB1 73 = .ok (.ifCond .lt 8, 3) := by decide +kernel
theorem d14_76 : decode cB1 76 = .ok (.aload_n 0, 1) := by decide +kernel
theorem d14_77 : decode cB1 77 = .ok (.iload_n 1, 1) := by decide +kernel
theorem d14_78 : decode cB1 78 = .ok (.putfield 17, 3) := by decide +kernel
theorem d14_81 : decode cB1 81 = .ok (.iload_n 2, 1) := by decide +kernel
theorem d14_82 : decode cB1 82 = .ok (.ireturn, 1) := by decide +kernel
theorem pn14 : plainName "com/example/copperline/copperline/Lexer" = true := by first | (simp [plainName, overriddenIn]; done) | decide +kernel
theorem pd14_0 : parseMethodDescriptor "()V" = some ⟨[], none⟩ := by decide +kernel
theorem pd14_1 : parseMethodDescriptor "(I)I" = some ⟨[.int], some .int⟩ := by decide +kernel
theorem pd14_2 : parseMethodDescriptor "(I)C" = some ⟨[.int], some .char⟩ := by decide +kernel
theorem ef14 (m : MethodId) (r0 : Addr) : entryFrame m #[(.ref r0)] 4 = mkF m 0 #[.val (.ref r0), .unset, .unset, .unset] [] := by first | (simp [entryFrame, mkF, argsToLocals, Value.category]; done) | rfl
def Q14 (Z : State) (r0 tx : Addr) (n z : Int32) (h0 : Heap) (n0 : Nat) (w : Option Value) (h : Heap) (L : List Loc) : Prop := w = some (.int n) ∧ Fr n0 L ∧ Keep h0 h [r0] ∧ Exa Z h r0 "com/example/copperline/copperline/Lexer" ∧ Fld Z h r0 "com/example/copperline/copperline/Lexer" "text" "Ljava/lang/String;" (.ref tx) ∧ Fld Z h r0 "com/example/copperline/copperline/Lexer" "position" "I" (.int z)
theorem rmXC_L0 (l : Launch) (Z : State) (a0 : Array Value) (hw : ∀ d ∈ tables_1, d.before a0 Z = true) (ws : List Jvm.Cond) (r0 : Addr) (tx : Addr) (vb : Addr) (kb : ClassId) (po : Int32) (x0 : Int32) (x1 : Int32) (x2 : Int32) (x4 : Int32) (cc : Int32) (fv : Value) (ra : Addr) (h0 : Heap) (n0 : Nat) (Z0 : n0 ≤ h0.size) (Ex : Exa Z h0 r0 "com/example/copperline/copperline/Lexer") (Fx : Fld Z h0 r0 "com/example/copperline/copperline/Lexer" "text" "Ljava/lang/String;" (.ref tx)) (Fp : Fld Z h0 r0 "com/example/copperline/copperline/Lexer" "position" "I" (.int po)) (Et : Exa Z h0 tx "java/lang/String") (Svt : Fld Z h0 tx "java/lang/String" "value" "[B" (.ref vb)) (Sct : Fld Z h0 tx "java/lang/String" "coder" "B" (.int 0)) (Vt : Arv Z h0 vb kb .byte (5 : Int32) [(.int x0), (.int x1), (.int x2), (.int (32 : Int32)), (.int x4)] (.int 0)) (d0 : own_dig x0) (d1 : own_dig x1) (d2 : own_dig x2) (l4 : own_let x4) (OO : OwnOld Z n0 h0 cc fv ra) : OwnC l Z mN0 (Jvm.Cond.code mN0 prog_36_method_26_code 2 (some .char) :: ws) ({ frames := 4, cells := 0, slots := 0, locals := 53 } : Room) #[(.ref r0), (.int (0 : Int32))] h0 (Q24 Z x0 h0 n0) := by
  refine own_body (plainFor_of_name pn24) (fun m => ef24 m r0 (0 : Int32)) ?_
  intro p e s m below meth c s₁ Bd hZ hml hown e0 hx hby hnm X0
  have N0 := Fr.nil n0
  obtain ⟨O_0, S_c, hcc, S_f, hfv, S_r⟩ := OO
  refine own_fw (fun _ => ox_iloadN X0.here hx (hb hby d24_0) rfl) ?_
  refine own_fw (fun _ => ox_aloadN X0.here hx (hb hby d24_1) rfl rfl) ?_
  refine own_gf X0 hx hZ hown (own_w hw 99 rfl) Via.refl e0 Fx (hb hby d24_2) rfl fun T24_1 X24_1 e24_1 => ?_
  refine own_vc X24_1 hx hZ hown (rmLN_L l Z a0 hw [] tx vb kb x0 x1 x2 x4 cc fv ra h0 n0 Z0 Et Svt Sct Vt d0 d1 d2 l4 ⟨O_0, S_c, hcc, S_f, hfv, S_r⟩) (own_w hw 114 rfl) (own_w hw 115 rfl) (own_w hw 117 rfl) (own_w hw 116 rfl) (own_w hw 118 rfl) (own_w hw 19 rfl) (by decide) hml rfl Et e24_1 (hb hby d24_5) rfl rfl (lenOf pd24_0 rfl) (W := 1) rfl (by decide) (by decide) (c' := 0) (s' := 0) rfl rfl (by decide) (by decide) ?_
  rintro _ T24_2 L24_2 X24_2 ⟨rfl, N24_2q, e24_2⟩
  have N24_2 := Fr.app N0 N24_2q
  refine own_fw (fun _ => ox_icmpNo X24_2.here hx (hb hby d24_8) rfl (tlt (by decide : ((0 : Int32) < (5 : Int32)))).2.1) ?_
  refine own_fw (fun _ => ox_aloadN X24_2.here hx (hb hby d24_11) rfl rfl) ?_
  refine own_gf X24_2 hx hZ hown (own_w hw 99 rfl) Via.refl e24_2 Fx (hb hby d24_12) rfl fun T24_3 X24_3 e24_3 => ?_
  refine own_fw (fun _ => ox_iloadN X24_3.here hx (hb hby d24_15) rfl) ?_
  refine own_vc X24_3 hx hZ hown (rmCA_L0 l Z a0 hw [] tx vb kb x0 x1 x2 x4 cc fv ra h0 n0 Z0 Et Svt Sct Vt d0 d1 d2 l4 ⟨O_0, S_c, hcc, S_f, hfv, S_r⟩) (own_w hw 124 rfl) (own_w hw 125 rfl) (own_w hw 127 rfl) (own_w hw 126 rfl) (own_w hw 128 rfl) (own_w hw 19 rfl) (by decide) hml rfl Et e24_3 (hb hby d24_16) rfl rfl (lenOf pd24_1 rfl) (W := 0) rfl (by decide) (by decide) (c' := 0) (s' := 0) rfl rfl (by decide) (by decide) ?_
  rintro _ T24_4 L24_4 X24_4 ⟨rfl, N24_4q, e24_4⟩
  have N24_4 := Fr.app N24_2 N24_4q
  refine own_fw (fun _ => ox_goto X24_4.here hx (pc0 := 19) (pc' := 23) rfl (hb hby d24_19) (by decide) (by decide)) ?_
  exact own_leaf X24_4 (v := some (.int (nar .char x0))) (own_ret Bd.returns) (BodyLoose.notSynchronized Bd) e24_4 (⟨congrArg (fun z => some (Value.int z)) (own_nc (own_dasc d0)), N24_4, rfl⟩) (by decide) (by decide) (fun fs hr => retN X24_4 hx (t := .char) Bd.returns (by simp) (hb hby d24_23) hr)
theorem rmXC_L1 (l : Launch) (Z : State) (a0 : Array Value) (hw : ∀ d ∈ tables_1, d.before a0 Z = true) (ws : List Jvm.Cond) (r0 : Addr) (tx : Addr) (vb : Addr) (kb : ClassId) (po : Int32) (x0 : Int32) (x1 : Int32) (x2 : Int32) (x4 : Int32) (cc : Int32) (fv : Value) (ra : Addr) (h0 : Heap) (n0 : Nat) (Z0 : n0 ≤ h0.size) (Ex : Exa Z h0 r0 "com/example/copperline/copperline/Lexer") (Fx : Fld Z h0 r0 "com/example/copperline/copperline/Lexer" "text" "Ljava/lang/String;" (.ref tx)) (Fp : Fld Z h0 r0 "com/example/copperline/copperline/Lexer" "position" "I" (.int po)) (Et : Exa Z h0 tx "java/lang/String") (Svt : Fld Z h0 tx "java/lang/String" "value" "[B" (.ref vb)) (Sct : Fld Z h0 tx "java/lang/String" "coder" "B" (.int 0)) (Vt : Arv Z h0 vb kb .byte (5 : Int32) [(.int x0), (.int x1), (.int x2), (.int (32 : Int32)), (.int x4)] (.int 0)) (d0 : own_dig x0) (d1 : own_dig x1) (d2 : own_dig x2) (l4 : own_let x4) (OO : OwnOld Z n0 h0 cc fv ra) : OwnC l Z mN0 (Jvm.Cond.code mN0 prog_36_method_26_code 2 (some .char) :: ws) ({ frames := 4, cells := 0, slots := 0, locals := 53 } : Room) #[(.ref r0), (.int (1 : Int32))] h0 (Q24 Z x1 h0 n0) := by
  refine own_body (plainFor_of_name pn24) (fun m => ef24 m r0 (1 : Int32)) ?_
  intro p e s m below meth c s₁ Bd hZ hml hown e0 hx hby hnm X0
  have N0 := Fr.nil n0
  obtain ⟨O_0, S_c, hcc, S_f, hfv, S_r⟩ := OO
  refine own_fw (fun _ => ox_iloadN X0.here hx (hb hby d24_0) rfl) ?_
  refine own_fw (fun _ => ox_aloadN X0.here hx (hb hby d24_1) rfl rfl) ?_
  refine own_gf X0 hx hZ hown (own_w hw 99 rfl) Via.refl e0 Fx (hb hby d24_2) rfl fun T24_1 X24_1 e24_1 => ?_
  refine own_vc X24_1 hx hZ hown (rmLN_L l Z a0 hw [] tx vb kb x0 x1 x2 x4 cc fv ra h0 n0 Z0 Et Svt Sct Vt d0 d1 d2 l4 ⟨O_0, S_c, hcc, S_f, hfv, S_r⟩) (own_w hw 114 rfl) (own_w hw 115 rfl) (own_w hw 117 rfl) (own_w hw 116 rfl) (own_w hw 118 rfl) (own_w hw 19 rfl) (by decide) hml rfl Et e24_1 (hb hby d24_5) rfl rfl (lenOf pd24_0 rfl) (W := 1) rfl (by decide) (by decide) (c' := 0) (s' := 0) rfl rfl (by decide) (by decide) ?_
  rintro _ T24_2 L24_2 X24_2 ⟨rfl, N24_2q, e24_2⟩
  have N24_2 := Fr.app N0 N24_2q
  refine own_fw (fun _ => ox_icmpNo X24_2.here hx (hb hby d24_8) rfl (tlt (by decide : ((1 : Int32) < (5 : Int32)))).2.1) ?_
  refine own_fw (fun _ => ox_aloadN X24_2.here hx (hb hby d24_11) rfl rfl) ?_
  refine own_gf X24_2 hx hZ hown (own_w hw 99 rfl) Via.refl e24_2 Fx (hb hby d24_12) rfl fun T24_3 X24_3 e24_3 => ?_
  refine own_fw (fun _ => ox_iloadN X24_3.here hx (hb hby d24_15) rfl) ?_
  refine own_vc X24_3 hx hZ hown (rmCA_L1 l Z a0 hw [] tx vb kb x0 x1 x2 x4 cc fv ra h0 n0 Z0 Et Svt Sct Vt d0 d1 d2 l4 ⟨O_0, S_c, hcc, S_f, hfv, S_r⟩) (own_w hw 124 rfl) (own_w hw 125 rfl) (own_w hw 127 rfl) (own_w hw 126 rfl) (own_w hw 128 rfl) (own_w hw 19 rfl) (by decide) hml rfl Et e24_3 (hb hby d24_16) rfl rfl (lenOf pd24_1 rfl) (W := 0) rfl (by decide) (by decide) (c' := 0) (s' := 0) rfl rfl (by decide) (by decide) ?_
  rintro _ T24_4 L24_4 X24_4 ⟨rfl, N24_4q, e24_4⟩
  have N24_4 := Fr.app N24_2 N24_4q
  refine own_fw (fun _ => ox_goto X24_4.here hx (pc0 := 19) (pc' := 23) rfl (hb hby d24_19) (by decide) (by decide)) ?_
  exact own_leaf X24_4 (v := some (.int (nar .char x1))) (own_ret Bd.returns) (BodyLoose.notSynchronized Bd) e24_4 (⟨congrArg (fun z => some (Value.int z)) (own_nc (own_dasc d1)), N24_4, rfl⟩) (by decide) (by decide) (fun fs hr => retN X24_4 hx (t := .char) Bd.returns (by simp) (hb hby d24_23) hr)
theorem rmXC_L2 (l : Launch) (Z : State) (a0 : Array Value) (hw : ∀ d ∈ tables_1, d.before a0 Z = true) (ws : List Jvm.Cond) (r0 : Addr) (tx : Addr) (vb : Addr) (kb : ClassId) (po : Int32) (x0 : Int32) (x1 : Int32) (x2 : Int32) (x4 : Int32) (cc : Int32) (fv : Value) (ra : Addr) (h0 : Heap) (n0 : Nat) (Z0 : n0 ≤ h0.size) (Ex : Exa Z h0 r0 "com/example/copperline/copperline/Lexer") (Fx : Fld Z h0 r0 "com/example/copperline/copperline/Lexer" "text" "Ljava/lang/String;" (.ref tx)) (Fp : Fld Z h0 r0 "com/example/copperline/copperline/Lexer" "position" "I" (.int po)) (Et : Exa Z h0 tx "java/lang/String") (Svt : Fld Z h0 tx "java/lang/String" "value" "[B" (.ref vb)) (Sct : Fld Z h0 tx "java/lang/String" "coder" "B" (.int 0)) (Vt : Arv Z h0 vb kb .byte (5 : Int32) [(.int x0), (.int x1), (.int x2), (.int (32 : Int32)), (.int x4)] (.int 0)) (d0 : own_dig x0) (d1 : own_dig x1) (d2 : own_dig x2) (l4 : own_let x4) (OO : OwnOld Z n0 h0 cc fv ra) : OwnC l Z mN0 (Jvm.Cond.code mN0 prog_36_method_26_code 2 (some .char) :: ws) ({ frames := 4, cells := 0, slots := 0, locals := 53 } : Room) #[(.ref r0), (.int (2 : Int32))] h0 (Q24 Z x2 h0 n0) := by
  refine own_body (plainFor_of_name pn24) (fun m => ef24 m r0 (2 : Int32)) ?_
  intro p e s m below meth c s₁ Bd hZ hml hown e0 hx hby hnm X0
  have N0 := Fr.nil n0
  obtain ⟨O_0, S_c, hcc, S_f, hfv, S_r⟩ := OO
  refine own_fw (fun _ => ox_iloadN X0.here hx (hb hby d24_0) rfl) ?_
  refine own_fw (fun _ => ox_aloadN X0.here hx (hb hby d24_1) rfl rfl) ?_
  refine own_gf X0 hx hZ hown (own_w hw 99 rfl) Via.refl e0 Fx (hb hby d24_2) rfl fun T24_1 X24_1 e24_1 => ?_
  refine own_vc X24_1 hx hZ hown (rmLN_L l Z a0 hw [] tx vb kb x0 x1 x2 x4 cc fv ra h0 n0 Z0 Et Svt Sct Vt d0 d1 d2 l4 ⟨O_0, S_c, hcc, S_f, hfv, S_r⟩) (own_w hw 114 rfl) (own_w hw 115 rfl) (own_w hw 117 rfl) (own_w hw 116 rfl) (own_w hw 118 rfl) (own_w hw 19 rfl) (by decide) hml rfl Et e24_1 (hb hby d24_5) rfl rfl (lenOf pd24_0 rfl) (W := 1) rfl (by decide) (by decide) (c' := 0) (s' := 0) rfl rfl (by decide) (by decide) ?_
  rintro _ T24_2 L24_2 X24_2 ⟨rfl, N24_2q, e24_2⟩
  have N24_2 := Fr.app N0 N24_2q
  refine own_fw (fun _ => ox_icmpNo X24_2.here hx (hb hby d24_8) rfl (tlt (by decide : ((2 : Int32) < (5 : Int32)))).2.1) ?_
  refine own_fw (fun _ => ox_aloadN X24_2.here hx (hb hby d24_11) rfl rfl) ?_
  refine own_gf X24_2 hx hZ hown (own_w hw 99 rfl) Via.refl e24_2 Fx (hb hby d24_12) rfl fun T24_3 X24_3 e24_3 => ?_
  refine own_fw (fun _ => ox_iloadN X24_3.here hx (hb hby d24_15) rfl) ?_
  refine own_vc X24_3 hx hZ hown (rmCA_L2 l Z a0 hw [] tx vb kb x0 x1 x2 x4 cc fv ra h0 n0 Z0 Et Svt Sct Vt d0 d1 d2 l4 ⟨O_0, S_c, hcc, S_f, hfv, S_r⟩) (own_w hw 124 rfl) (own_w hw 125 rfl) (own_w hw 127 rfl) (own_w hw 126 rfl) (own_w hw 128 rfl) (own_w hw 19 rfl) (by decide) hml rfl Et e24_3 (hb hby d24_16) rfl rfl (lenOf pd24_1 rfl) (W := 0) rfl (by decide) (by decide) (c' := 0) (s' := 0) rfl rfl (by decide) (by decide) ?_
  rintro _ T24_4 L24_4 X24_4 ⟨rfl, N24_4q, e24_4⟩
  have N24_4 := Fr.app N24_2 N24_4q
  refine own_fw (fun _ => ox_goto X24_4.here hx (pc0 := 19) (pc' := 23) rfl (hb hby d24_19) (by decide) (by decide)) ?_
  exact own_leaf X24_4 (v := some (.int (nar .char x2))) (own_ret Bd.returns) (BodyLoose.notSynchronized Bd) e24_4 (⟨congrArg (fun z => some (Value.int z)) (own_nc (own_dasc d2)), N24_4, rfl⟩) (by decide) (by decide) (fun fs hr => retN X24_4 hx (t := .char) Bd.returns (by simp) (hb hby d24_23) hr)
theorem rmXC_L3 (l : Launch) (Z : State) (a0 : Array Value) (hw : ∀ d ∈ tables_1, d.before a0 Z = true) (ws : List Jvm.Cond) (r0 : Addr) (tx : Addr) (vb : Addr) (kb : ClassId) (po : Int32) (x0 : Int32) (x1 : Int32) (x2 : Int32) (x4 : Int32) (cc : Int32) (fv : Value) (ra : Addr) (h0 : Heap) (n0 : Nat) (Z0 : n0 ≤ h0.size) (Ex : Exa Z h0 r0 "com/example/copperline/copperline/Lexer") (Fx : Fld Z h0 r0 "com/example/copperline/copperline/Lexer" "text" "Ljava/lang/String;" (.ref tx)) (Fp : Fld Z h0 r0 "com/example/copperline/copperline/Lexer" "position" "I" (.int po)) (Et : Exa Z h0 tx "java/lang/String") (Svt : Fld Z h0 tx "java/lang/String" "value" "[B" (.ref vb)) (Sct : Fld Z h0 tx "java/lang/String" "coder" "B" (.int 0)) (Vt : Arv Z h0 vb kb .byte (5 : Int32) [(.int x0), (.int x1), (.int x2), (.int (32 : Int32)), (.int x4)] (.int 0)) (d0 : own_dig x0) (d1 : own_dig x1) (d2 : own_dig x2) (l4 : own_let x4) (OO : OwnOld Z n0 h0 cc fv ra) : OwnC l Z mN0 (Jvm.Cond.code mN0 prog_36_method_26_code 2 (some .char) :: ws) ({ frames := 4, cells := 0, slots := 0, locals := 53 } : Room) #[(.ref r0), (.int (3 : Int32))] h0 (Q24 Z (32 : Int32) h0 n0) := by
  refine own_body (plainFor_of_name pn24) (fun m => ef24 m r0 (3 : Int32)) ?_
  intro p e s m below meth c s₁ Bd hZ hml hown e0 hx hby hnm X0
  have N0 := Fr.nil n0
  obtain ⟨O_0, S_c, hcc, S_f, hfv, S_r⟩ := OO
  refine own_fw (fun _ => ox_iloadN X0.here hx (hb hby d24_0) rfl) ?_
  refine own_fw (fun _ => ox_aloadN X0.here hx (hb hby d24_1) rfl rfl) ?_
  refine own_gf X0 hx hZ hown (own_w hw 99 rfl) Via.refl e0 Fx (hb hby d24_2) rfl fun T24_1 X24_1 e24_1 => ?_
  refine own_vc X24_1 hx hZ hown (rmLN_L l Z a0 hw [] tx vb kb x0 x1 x2 x4 cc fv ra h0 n0 Z0 Et Svt Sct Vt d0 d1 d2 l4 ⟨O_0, S_c, hcc, S_f, hfv, S_r⟩) (own_w hw 114 rfl) (own_w hw 115 rfl) (own_w hw 117 rfl) (own_w hw 116 rfl) (own_w hw 118 rfl) (own_w hw 19 rfl) (by decide) hml rfl Et e24_1 (hb hby d24_5) rfl rfl (lenOf pd24_0 rfl) (W := 1) rfl (by decide) (by decide) (c' := 0) (s' := 0) rfl rfl (by decide) (by decide) ?_
  rintro _ T24_2 L24_2 X24_2 ⟨rfl, N24_2q, e24_2⟩
  have N24_2 := Fr.app N0 N24_2q
  refine own_fw (fun _ => ox_icmpNo X24_2.here hx (hb hby d24_8) rfl (tlt (by decide : ((3 : Int32) < (5 : Int32)))).2.1) ?_
  refine own_fw (fun _ => ox_aloadN X24_2.here hx (hb hby d24_11) rfl rfl) ?_
  refine own_gf X24_2 hx hZ hown (own_w hw 99 rfl) Via.refl e24_2 Fx (hb hby d24_12) rfl fun T24_3 X24_3 e24_3 => ?_
  refine own_fw (fun _ => ox_iloadN X24_3.here hx (hb hby d24_15) rfl) ?_
  refine own_vc X24_3 hx hZ hown (rmCA_L3 l Z a0 hw [] tx vb kb x0 x1 x2 x4 cc fv ra h0 n0 Z0 Et Svt Sct Vt d0 d1 d2 l4 ⟨O_0, S_c, hcc, S_f, hfv, S_r⟩) (own_w hw 124 rfl) (own_w hw 125 rfl) (own_w hw 127 rfl) (own_w hw 126 rfl) (own_w hw 128 rfl) (own_w hw 19 rfl) (by decide) hml rfl Et e24_3 (hb hby d24_16) rfl rfl (lenOf pd24_1 rfl) (W := 0) rfl (by decide) (by decide) (c' := 0) (s' := 0) rfl rfl (by decide) (by decide) ?_
  rintro _ T24_4 L24_4 X24_4 ⟨rfl, N24_4q, e24_4⟩
  have N24_4 := Fr.app N24_2 N24_4q
  refine own_fw (fun _ => ox_goto X24_4.here hx (pc0 := 19) (pc' := 23) rfl (hb hby d24_19) (by decide) (by decide)) ?_
  exact own_leaf X24_4 (v := some (.int (nar .char (32 : Int32)))) (own_ret Bd.returns) (BodyLoose.notSynchronized Bd) e24_4 (⟨congrArg (fun z => some (Value.int z)) (own_nc own_a32), N24_4, rfl⟩) (by decide) (by decide) (fun fs hr => retN X24_4 hx (t := .char) Bd.returns (by simp) (hb hby d24_23) hr)
theorem rmDF_L (l : Launch) (Z : State) (a0 : Array Value) (hw : ∀ d ∈ tables_1, d.before a0 Z = true) (ws : List Jvm.Cond) (r0 : Addr) (tx : Addr) (vb : Addr) (kb : ClassId) (po : Int32) (x0 : Int32) (x1 : Int32) (x2 : Int32) (x4 : Int32) (cc : Int32) (fv : Value) (ra : Addr) (h0 : Heap) (n0 : Nat) (Z0 : n0 ≤ h0.size) (Ex : Exa Z h0 r0 "com/example/copperline/copperline/Lexer") (Fx : Fld Z h0 r0 "com/example/copperline/copperline/Lexer" "text" "Ljava/lang/String;" (.ref tx)) (Fp : Fld Z h0 r0 "com/example/copperline/copperline/Lexer" "position" "I" (.int po)) (Et : Exa Z h0 tx "java/lang/String") (Svt : Fld Z h0 tx "java/lang/String" "value" "[B" (.ref vb)) (Sct : Fld Z h0 tx "java/lang/String" "coder" "B" (.int 0)) (Vt : Arv Z h0 vb kb .byte (5 : Int32) [(.int x0), (.int x1), (.int x2), (.int (32 : Int32)), (.int x4)] (.int 0)) (d0 : own_dig x0) (d1 : own_dig x1) (d2 : own_dig x2) (l4 : own_let x4) (OO : OwnOld Z n0 h0 cc fv ra) : OwnC l Z mN9 (Jvm.Cond.code mN9 prog_36_method_25_code 3 (some .int) :: ws) ({ frames := 5, cells := 0, slots := 0, locals := 66 } : Room) #[(.ref r0), (.int (0 : Int32))] h0 (Q23 Z (3 : Int32) h0 n0) := by
  refine own_body (plainFor_of_name pn23) (fun m => ef23 m r0 (0 : Int32)) ?_
  intro p e s m below meth c s₁ Bd hZ hml hown e0 hx hby hnm X0
  have N0 := Fr.nil n0
  obtain ⟨O_0, S_c, hcc, S_f, hfv, S_r⟩ := OO
  refine own_fw (fun _ => ox_iloadN X0.here hx (hb hby d23_0) rfl) ?_
  refine own_fw (fun _ => ox_istoreN X0.here hx (hb hby d23_1) rfl (l' := #[.val (.ref r0), .val (.int (0 : Int32)), .val (.int (0 : Int32))]) rfl) ?_
  refine own_fw (fun _ => ox_aloadN X0.here hx (hb hby d23_2) rfl rfl) ?_
  refine own_fw (fun _ => ox_iloadN X0.here hx (hb hby d23_3) rfl) ?_
  refine own_pc X0 hx hZ hown (rmXC_L0 l Z a0 hw [] r0 tx vb kb po x0 x1 x2 x4 cc fv ra h0 n0 Z0 Ex Fx Fp Et Svt Sct Vt d0 d1 d2 l4 ⟨O_0, S_c, hcc, S_f, hfv, S_r⟩) (own_w hw 150 rfl) (own_w hw 152 rfl) (own_selP (y := mN0) (own_w hw 88 rfl) (own_w hw 152 rfl) (own_w hw 151 rfl) (by decide)) (own_w hw 151 rfl) (own_w hw 153 rfl) (own_w hw 89 rfl) (by decide) hml rfl Ex e0 (hb hby d23_4) rfl rfl (lenOf pd23_0 rfl) (W := 0) rfl (by decide) (by decide) (c' := 0) (s' := 0) rfl rfl (by decide) (by decide) ?_
  rintro _ T23_1 L23_1 X23_1 ⟨rfl, N23_1q, e23_1⟩
  have N23_1 := Fr.app N0 N23_1q
  refine own_sc X23_1 hx hZ hown (rm25 l Z a0 hw [] (x0) h0 n0 Z0 ) (own_w hw 154 rfl) (own_w hw 155 rfl) (own_w hw 156 rfl) (own_w hw 89 rfl) (by decide) hml rfl e23_1 (hb hby d23_7) rfl rfl (lenOf pd23_1 rfl) (W := 0) rfl (by decide) (by decide) (c' := 0) (s' := 0) rfl rfl (by decide) (by decide) ?_
  rintro _ T23_2 L23_2 X23_2 ⟨rfl, N23_2q, e23_2⟩
  have N23_2 := Fr.app N23_1 N23_2q
  refine own_fw (fun _ => ox_ifNo X23_2.here hx (hb hby d23_10) rfl ((if0 _ _).trans (feq (own_dg d0)).1)) ?_
  refine own_fw (fun _ => ox_iinc X23_2.here hx (hb hby d23_13) rfl (l' := #[.val (.ref r0), .val (.int (0 : Int32)), .val (.int (1 : Int32))]) rfl) ?_
  refine own_fw (fun _ => ox_goto X23_2.here hx (pc0 := 16) (pc' := 2) rfl (hb hby d23_16) (by decide) (by decide)) ?_
  refine own_fw (fun _ => ox_aloadN X23_2.here hx (hb hby d23_2) rfl rfl) ?_
  refine own_fw (fun _ => ox_iloadN X23_2.here hx (hb hby d23_3) rfl) ?_
  refine own_pc X23_2 hx hZ hown (rmXC_L1 l Z a0 hw [] r0 tx vb kb po x0 x1 x2 x4 cc fv ra h0 n0 Z0 Ex Fx Fp Et Svt Sct Vt d0 d1 d2 l4 ⟨O_0, S_c, hcc, S_f, hfv, S_r⟩) (own_w hw 150 rfl) (own_w hw 152 rfl) (own_selP (y := mN0) (own_w hw 88 rfl) (own_w hw 152 rfl) (own_w hw 151 rfl) (by decide)) (own_w hw 151 rfl) (own_w hw 153 rfl) (own_w hw 89 rfl) (by decide) hml rfl Ex e23_2 (hb hby d23_4) rfl rfl (lenOf pd23_0 rfl) (W := 0) rfl (by decide) (by decide) (c' := 0) (s' := 0) rfl rfl (by decide) (by decide) ?_
  rintro _ T23_3 L23_3 X23_3 ⟨rfl, N23_3q, e23_3⟩
  have N23_3 := Fr.app N23_2 N23_3q
  refine own_sc X23_3 hx hZ hown (rm25 l Z a0 hw [] (x1) h0 n0 Z0 ) (own_w hw 154 rfl) (own_w hw 155 rfl) (own_w hw 156 rfl) (own_w hw 89 rfl) (by decide) hml rfl e23_3 (hb hby d23_7) rfl rfl (lenOf pd23_1 rfl) (W := 0) rfl (by decide) (by decide) (c' := 0) (s' := 0) rfl rfl (by decide) (by decide) ?_
  rintro _ T23_4 L23_4 X23_4 ⟨rfl, N23_4q, e23_4⟩
  have N23_4 := Fr.app N23_3 N23_4q
  refine own_fw (fun _ => ox_ifNo X23_4.here hx (hb hby d23_10) rfl ((if0 _ _).trans (feq (own_dg d1)).1)) ?_
  refine own_fw (fun _ => ox_iinc X23_4.here hx (hb hby d23_13) rfl (l' := #[.val (.ref r0), .val (.int (0 : Int32)), .val (.int (2 : Int32))]) rfl) ?_
  refine own_fw (fun _ => ox_goto X23_4.here hx (pc0 := 16) (pc' := 2) rfl (hb hby d23_16) (by decide) (by decide)) ?_
  refine own_fw (fun _ => ox_aloadN X23_4.here hx (hb hby d23_2) rfl rfl) ?_
  refine own_fw (fun _ => ox_iloadN X23_4.here hx (hb hby d23_3) rfl) ?_
  refine own_pc X23_4 hx hZ hown (rmXC_L2 l Z a0 hw [] r0 tx vb kb po x0 x1 x2 x4 cc fv ra h0 n0 Z0 Ex Fx Fp Et Svt Sct Vt d0 d1 d2 l4 ⟨O_0, S_c, hcc, S_f, hfv, S_r⟩) (own_w hw 150 rfl) (own_w hw 152 rfl) (own_selP (y := mN0) (own_w hw 88 rfl) (own_w hw 152 rfl) (own_w hw 151 rfl) (by decide)) (own_w hw 151 rfl) (own_w hw 153 rfl) (own_w hw 89 rfl) (by decide) hml rfl Ex e23_4 (hb hby d23_4) rfl rfl (lenOf pd23_0 rfl) (W := 0) rfl (by decide) (by decide) (c' := 0) (s' := 0) rfl rfl (by decide) (by decide) ?_
  rintro _ T23_5 L23_5 X23_5 ⟨rfl, N23_5q, e23_5⟩
  have N23_5 := Fr.app N23_4 N23_5q
  refine own_sc X23_5 hx hZ hown (rm25 l Z a0 hw [] (x2) h0 n0 Z0 ) (own_w hw 154 rfl) (own_w hw 155 rfl) (own_w hw 156 rfl) (own_w hw 89 rfl) (by decide) hml rfl e23_5 (hb hby d23_7) rfl rfl (lenOf pd23_1 rfl) (W := 0) rfl (by decide) (by decide) (c' := 0) (s' := 0) rfl rfl (by decide) (by decide) ?_
  rintro _ T23_6 L23_6 X23_6 ⟨rfl, N23_6q, e23_6⟩
  have N23_6 := Fr.app N23_5 N23_6q
  refine own_fw (fun _ => ox_ifNo X23_6.here hx (hb hby d23_10) rfl ((if0 _ _).trans (feq (own_dg d2)).1)) ?_
  refine own_fw (fun _ => ox_iinc X23_6.here hx (hb hby d23_13) rfl (l' := #[.val (.ref r0), .val (.int (0 : Int32)), .val (.int (3 : Int32))]) rfl) ?_
  refine own_fw (fun _ => ox_goto X23_6.here hx (pc0 := 16) (pc' := 2) rfl (hb hby d23_16) (by decide) (by decide)) ?_
  refine own_fw (fun _ => ox_aloadN X23_6.here hx (hb hby d23_2) rfl rfl) ?_
  refine own_fw (fun _ => ox_iloadN X23_6.here hx (hb hby d23_3) rfl) ?_
  refine own_pc X23_6 hx hZ hown (rmXC_L3 l Z a0 hw [] r0 tx vb kb po x0 x1 x2 x4 cc fv ra h0 n0 Z0 Ex Fx Fp Et Svt Sct Vt d0 d1 d2 l4 ⟨O_0, S_c, hcc, S_f, hfv, S_r⟩) (own_w hw 150 rfl) (own_w hw 152 rfl) (own_selP (y := mN0) (own_w hw 88 rfl) (own_w hw 152 rfl) (own_w hw 151 rfl) (by decide)) (own_w hw 151 rfl) (own_w hw 153 rfl) (own_w hw 89 rfl) (by decide) hml rfl Ex e23_6 (hb hby d23_4) rfl rfl (lenOf pd23_0 rfl) (W := 0) rfl (by decide) (by decide) (c' := 0) (s' := 0) rfl rfl (by decide) (by decide) ?_
  rintro _ T23_7 L23_7 X23_7 ⟨rfl, N23_7q, e23_7⟩
  have N23_7 := Fr.app N23_6 N23_7q
  refine own_sc X23_7 hx hZ hown (rm25 l Z a0 hw [] ((32 : Int32)) h0 n0 Z0 ) (own_w hw 154 rfl) (own_w hw 155 rfl) (own_w hw 156 rfl) (own_w hw 89 rfl) (by decide) hml rfl e23_7 (hb hby d23_7) rfl rfl (lenOf pd23_1 rfl) (W := 0) rfl (by decide) (by decide) (c' := 0) (s' := 0) rfl rfl (by decide) (by decide) ?_
  rintro _ T23_8 L23_8 X23_8 ⟨rfl, N23_8q, e23_8⟩
  have N23_8 := Fr.app N23_7 N23_8q
  refine own_fw (fun _ => ox_ifYes X23_8.here hx (pc0 := 10) (pc' := 19) rfl (hb hby d23_10) rfl ((if0 _ _).trans (teq (by decide)).1) (by decide) (by decide)) ?_
  refine own_fw (fun _ => ox_iloadN X23_8.here hx (hb hby d23_19) rfl) ?_
  exact own_leaf X23_8 (v := some (.int (3 : Int32))) (own_ret Bd.returns) (BodyLoose.notSynchronized Bd) e23_8 (⟨rfl, N23_8, rfl⟩) (by decide) (by decide) (fun fs hr => retI X23_8 hx Bd.returns (hb hby d23_20) hr)
theorem rmSK_L0 (l : Launch) (Z : State) (a0 : Array Value) (hw : ∀ d ∈ tables_1, d.before a0 Z = true) (ws : List Jvm.Cond) (r0 : Addr) (tx : Addr) (vb : Addr) (kb : ClassId) (x0 : Int32) (x1 : Int32) (x2 : Int32) (x4 : Int32) (cc : Int32) (fv : Value) (ra : Addr) (h0 : Heap) (n0 : Nat) (Z0 : n0 ≤ h0.size) (Ex : Exa Z h0 r0 "com/example/copperline/copperline/Lexer") (Fx : Fld Z h0 r0 "com/example/copperline/copperline/Lexer" "text" "Ljava/lang/String;" (.ref tx)) (Fp : Fld Z h0 r0 "com/example/copperline/copperline/Lexer" "position" "I" (.int (0 : Int32))) (Et : Exa Z h0 tx "java/lang/String") (Svt : Fld Z h0 tx "java/lang/String" "value" "[B" (.ref vb)) (Sct : Fld Z h0 tx "java/lang/String" "coder" "B" (.int 0)) (Vt : Arv Z h0 vb kb .byte (5 : Int32) [(.int x0), (.int x1), (.int x2), (.int (32 : Int32)), (.int x4)] (.int 0)) (d0 : own_dig x0) (d1 : own_dig x1) (d2 : own_dig x2) (l4 : own_let x4) (nx : tx ≠ r0) (nv : vb ≠ r0) (g_r0 : n0 ≤ r0) (OO : OwnOld Z n0 h0 cc fv ra) : OwnC l Z mN4 (Jvm.Cond.code mN4 prog_36_method_22_code 1 none :: ws) ({ frames := 4, cells := 0, slots := 0, locals := 53 } : Room) #[(.ref r0)] h0 (Q15 Z r0 tx (0 : Int32) h0 n0) := by
  refine own_body (plainFor_of_name pn15) (fun m => ef15 m r0) ?_
  intro p e s m below meth c s₁ Bd hZ hml hown e0 hx hby hnm X0
  have N0 := Fr.nil n0
  obtain ⟨O_0, S_c, hcc, S_f, hfv, S_r⟩ := OO
  refine own_fw (fun _ => ox_aloadN X0.here hx (hb hby d15_0) rfl rfl) ?_
  refine own_gf X0 hx hZ hown (own_w hw 101 rfl) Via.refl e0 Fp (hb hby d15_1) rfl fun T15_1 X15_1 e15_1 => ?_
  refine own_fw (fun _ => ox_aloadN X15_1.here hx (hb hby d15_4) rfl rfl) ?_
  refine own_gf X15_1 hx hZ hown (own_w hw 99 rfl) Via.refl e15_1 Fx (hb hby d15_5) rfl fun T15_2 X15_2 e15_2 => ?_
  refine own_vc X15_2 hx hZ hown (rmLN_L l Z a0 hw [] tx vb kb x0 x1 x2 x4 cc fv ra h0 n0 Z0 Et Svt Sct Vt d0 d1 d2 l4 ⟨O_0, S_c, hcc, S_f, hfv, S_r⟩) (own_w hw 114 rfl) (own_w hw 115 rfl) (own_w hw 117 rfl) (own_w hw 116 rfl) (own_w hw 118 rfl) (own_w hw 19 rfl) (by decide) hml rfl Et e15_2 (hb hby d15_8) rfl rfl (lenOf pd15_0 rfl) (W := 1) rfl (by decide) (by decide) (c' := 0) (s' := 0) rfl rfl (by decide) (by decide) ?_
  rintro _ T15_3 L15_3 X15_3 ⟨rfl, N15_3q, e15_3⟩
  have N15_3 := Fr.app N0 N15_3q
  refine own_fw (fun _ => ox_icmpNo X15_3.here hx (hb hby d15_11) rfl (tlt (by decide : ((0 : Int32) < (5 : Int32)))).2.1) ?_
  refine own_fw (fun _ => ox_aloadN X15_3.here hx (hb hby d15_14) rfl rfl) ?_
  refine own_gf X15_3 hx hZ hown (own_w hw 99 rfl) Via.refl e15_3 Fx (hb hby d15_15) rfl fun T15_4 X15_4 e15_4 => ?_
  refine own_fw (fun _ => ox_aloadN X15_4.here hx (hb hby d15_18) rfl rfl) ?_
  refine own_gf X15_4 hx hZ hown (own_w hw 101 rfl) Via.refl e15_4 Fp (hb hby d15_19) rfl fun T15_5 X15_5 e15_5 => ?_
  refine own_vc X15_5 hx hZ hown (rmCA_L0 l Z a0 hw [] tx vb kb x0 x1 x2 x4 cc fv ra h0 n0 Z0 Et Svt Sct Vt d0 d1 d2 l4 ⟨O_0, S_c, hcc, S_f, hfv, S_r⟩) (own_w hw 124 rfl) (own_w hw 125 rfl) (own_w hw 127 rfl) (own_w hw 126 rfl) (own_w hw 128 rfl) (own_w hw 19 rfl) (by decide) hml rfl Et e15_5 (hb hby d15_22) rfl rfl (lenOf pd15_1 rfl) (W := 0) rfl (by decide) (by decide) (c' := 0) (s' := 0) rfl rfl (by decide) (by decide) ?_
  rintro _ T15_6 L15_6 X15_6 ⟨rfl, N15_6q, e15_6⟩
  have N15_6 := Fr.app N15_3 N15_6q
  refine own_fw (fun _ => ox_bipush X15_6.here hx (hb hby d15_25)) ?_
  refine own_fw (fun _ => ox_icmpYes X15_6.here hx (pc0 := 27) (pc' := 43) rfl (hb hby d15_27) rfl (feq (own_dn d0)).2 (by decide) (by decide)) ?_
  exact own_leaf X15_6 (v := none) (fun _ => rfl) (BodyLoose.notSynchronized Bd) e15_6 (⟨rfl, N15_6, (Keep.refl h0 [r0]), Ex, Fx, Fp⟩) (by decide) (by decide) (fun fs hr => X15_6.returnOut hx Bd.returns (hb hby d15_43) hr)
theorem rmSK_L3 (l : Launch) (Z : State) (a0 : Array Value) (hw : ∀ d ∈ tables_1, d.before a0 Z = true) (ws : List Jvm.Cond) (r0 : Addr) (tx : Addr) (vb : Addr) (kb : ClassId) (x0 : Int32) (x1 : Int32) (x2 : Int32) (x4 : Int32) (cc : Int32) (fv : Value) (ra : Addr) (h0 : Heap) (n0 : Nat) (Z0 : n0 ≤ h0.size) (Ex : Exa Z h0 r0 "com/example/copperline/copperline/Lexer") (Fx : Fld Z h0 r0 "com/example/copperline/copperline/Lexer" "text" "Ljava/lang/String;" (.ref tx)) (Fp : Fld Z h0 r0 "com/example/copperline/copperline/Lexer" "position" "I" (.int (3 : Int32))) (Et : Exa Z h0 tx "java/lang/String") (Svt : Fld Z h0 tx "java/lang/String" "value" "[B" (.ref vb)) (Sct : Fld Z h0 tx "java/lang/String" "coder" "B" (.int 0)) (Vt : Arv Z h0 vb kb .byte (5 : Int32) [(.int x0), (.int x1), (.int x2), (.int (32 : Int32)), (.int x4)] (.int 0)) (d0 : own_dig x0) (d1 : own_dig x1) (d2 : own_dig x2) (l4 : own_let x4) (nx : tx ≠ r0) (nv : vb ≠ r0) (g_r0 : n0 ≤ r0) (OO : OwnOld Z n0 h0 cc fv ra) : OwnC l Z mN4 (Jvm.Cond.code mN4 prog_36_method_22_code 1 none :: ws) ({ frames := 4, cells := 0, slots := 0, locals := 53 } : Room) #[(.ref r0)] h0 (Q15 Z r0 tx (4 : Int32) h0 n0) := by
  refine own_body (plainFor_of_name pn15) (fun m => ef15 m r0) ?_
  intro p e s m below meth c s₁ Bd hZ hml hown e0 hx hby hnm X0
  have N0 := Fr.nil n0
  obtain ⟨O_0, S_c, hcc, S_f, hfv, S_r⟩ := OO
  refine own_fw (fun _ => ox_aloadN X0.here hx (hb hby d15_0) rfl rfl) ?_
  refine own_gf X0 hx hZ hown (own_w hw 101 rfl) Via.refl e0 Fp (hb hby d15_1) rfl fun T15_1 X15_1 e15_1 => ?_
  refine own_fw (fun _ => ox_aloadN X15_1.here hx (hb hby d15_4) rfl rfl) ?_
  refine own_gf X15_1 hx hZ hown (own_w hw 99 rfl) Via.refl e15_1 Fx (hb hby d15_5) rfl fun T15_2 X15_2 e15_2 => ?_
  refine own_vc X15_2 hx hZ hown (rmLN_L l Z a0 hw [] tx vb kb x0 x1 x2 x4 cc fv ra h0 n0 Z0 Et Svt Sct Vt d0 d1 d2 l4 ⟨O_0, S_c, hcc, S_f, hfv, S_r⟩) (own_w hw 114 rfl) (own_w hw 115 rfl) (own_w hw 117 rfl) (own_w hw 116 rfl) (own_w hw 118 rfl) (own_w hw 19 rfl) (by decide) hml rfl Et e15_2 (hb hby d15_8) rfl rfl (lenOf pd15_0 rfl) (W := 1) rfl (by decide) (by decide) (c' := 0) (s' := 0) rfl rfl (by decide) (by decide) ?_
  rintro _ T15_3 L15_3 X15_3 ⟨rfl, N15_3q, e15_3⟩
  have N15_3 := Fr.app N0 N15_3q
  refine own_fw (fun _ => ox_icmpNo X15_3.here hx (hb hby d15_11) rfl (tlt (by decide : ((3 : Int32) < (5 : Int32)))).2.1) ?_
  refine own_fw (fun _ => ox_aloadN X15_3.here hx (hb hby d15_14) rfl rfl) ?_
  refine own_gf X15_3 hx hZ hown (own_w hw 99 rfl) Via.refl e15_3 Fx (hb hby d15_15) rfl fun T15_4 X15_4 e15_4 => ?_
  refine own_fw (fun _ => ox_aloadN X15_4.here hx (hb hby d15_18) rfl rfl) ?_
  refine own_gf X15_4 hx hZ hown (own_w hw 101 rfl) Via.refl e15_4 Fp (hb hby d15_19) rfl fun T15_5 X15_5 e15_5 => ?_
  refine own_vc X15_5 hx hZ hown (rmCA_L3 l Z a0 hw [] tx vb kb x0 x1 x2 x4 cc fv ra h0 n0 Z0 Et Svt Sct Vt d0 d1 d2 l4 ⟨O_0, S_c, hcc, S_f, hfv, S_r⟩) (own_w hw 124 rfl) (own_w hw 125 rfl) (own_w hw 127 rfl) (own_w hw 126 rfl) (own_w hw 128 rfl) (own_w hw 19 rfl) (by decide) hml rfl Et e15_5 (hb hby d15_22) rfl rfl (lenOf pd15_1 rfl) (W := 0) rfl (by decide) (by decide) (c' := 0) (s' := 0) rfl rfl (by decide) (by decide) ?_
  rintro _ T15_6 L15_6 X15_6 ⟨rfl, N15_6q, e15_6⟩
  have N15_6 := Fr.app N15_3 N15_6q
  refine own_fw (fun _ => ox_bipush X15_6.here hx (hb hby d15_25)) ?_
  refine own_fw (fun _ => ox_icmpNo X15_6.here hx (hb hby d15_27) rfl (teq (rfl : (32 : Int32) = (32 : Int32))).2) ?_
  refine own_fw (fun _ => ox_aloadN X15_6.here hx (hb hby d15_30) rfl rfl) ?_
  refine own_fw (fun _ => ox_dup X15_6.here hx (hb hby d15_31) rfl rfl) ?_
  refine own_gf X15_6 hx hZ hown (own_w hw 101 rfl) Via.refl e15_6 Fp (hb hby d15_32) rfl fun T15_7 X15_7 e15_7 => ?_
  refine own_fw (fun _ => ox_iconst X15_7.here hx (hb hby d15_35)) ?_
  refine own_fw (fun _ => ox_iadd X15_7.here hx (hb hby d15_36) rfl) ?_
  obtain ⟨T15_8, h15_8, X15_8, e15_8, W15_8, st15_8⟩ := putF X15_7 hx hZ hown (host := "") (Or.inl (own_w hw 101 rfl)) Via.refl e15_7 Fp Ex (Or.inl (own_w hw 102 rfl)) (own_w hw 88 rfl) (ty := .int) (by decide) rfl rfl (g := (mkF m 37 #[.val (.ref r0)] [(.int (4 : Int32)), (.ref r0)])) rfl rfl (hb hby d15_37)
  have Fw15_8 := Fp.same W15_8
  have N15_8 := Fr.snoc X15_8 N15_6 g_r0
  refine own_fw (A := T15_8.setTop (mkF m 40 #[.val (.ref r0)] [])) st15_8 ?_
  refine own_fw (fun _ => ox_goto X15_8.here hx (pc0 := 40) (pc' := 0) rfl (hb hby d15_40) (by decide) (by decide)) ?_
  refine own_fw (fun _ => ox_aloadN X15_8.here hx (hb hby d15_0) rfl rfl) ?_
  refine own_gf X15_8 hx hZ hown (own_w hw 101 rfl) Via.refl e15_8 Fw15_8 (hb hby d15_1) rfl fun T15_9 X15_9 e15_9 => ?_
  refine own_fw (fun _ => ox_aloadN X15_9.here hx (hb hby d15_4) rfl rfl) ?_
  refine own_gf X15_9 hx hZ hown (own_w hw 99 rfl) Via.refl e15_9 (Fx.other W15_8 (Or.inr (slot_ne (Or.inr (own_w hw 100 rfl)) (Or.inl (own_w hw 102 rfl)) (by decide) (t := (.object "java/lang/String")) (t' := .int) (by decide) (by decide)))) (hb hby d15_5) rfl fun T15_10 X15_10 e15_10 => ?_
  refine own_vc X15_10 hx hZ hown (rmLN_L l Z a0 hw [] tx vb kb x0 x1 x2 x4 cc fv ra h15_8 n0 (Nat.le_trans Z0 (Keep.of_wr W15_8).1) (Et.wr W15_8) (Svt.other W15_8 (Or.inl nx)) (Sct.other W15_8 (Or.inl nx)) (Vt.other W15_8 nv) d0 d1 d2 l4 ⟨(O_0.wr W15_8 g_r0), S_c, hcc, S_f, hfv, S_r⟩) (own_w hw 114 rfl) (own_w hw 115 rfl) (own_w hw 117 rfl) (own_w hw 116 rfl) (own_w hw 118 rfl) (own_w hw 19 rfl) (by decide) hml rfl (Et.wr W15_8) e15_10 (hb hby d15_8) rfl rfl (lenOf pd15_0 rfl) (W := 1) rfl (by decide) (by decide) (c' := 0) (s' := 0) rfl rfl (by decide) (by decide) ?_
  rintro _ T15_11 L15_11 X15_11 ⟨rfl, N15_11q, e15_11⟩
  have N15_11 := Fr.app N15_8 N15_11q
  refine own_fw (fun _ => ox_icmpNo X15_11.here hx (hb hby d15_11) rfl (tlt (by decide : ((4 : Int32) < (5 : Int32)))).2.1) ?_
  refine own_fw (fun _ => ox_aloadN X15_11.here hx (hb hby d15_14) rfl rfl) ?_
  refine own_gf X15_11 hx hZ hown (own_w hw 99 rfl) Via.refl e15_11 (Fx.other W15_8 (Or.inr (slot_ne (Or.inr (own_w hw 100 rfl)) (Or.inl (own_w hw 102 rfl)) (by decide) (t := (.object "java/lang/String")) (t' := .int) (by decide) (by decide)))) (hb hby d15_15) rfl fun T15_12 X15_12 e15_12 => ?_
  refine own_fw (fun _ => ox_aloadN X15_12.here hx (hb hby d15_18) rfl rfl) ?_
  refine own_gf X15_12 hx hZ hown (own_w hw 101 rfl) Via.refl e15_12 Fw15_8 (hb hby d15_19) rfl fun T15_13 X15_13 e15_13 => ?_
  refine own_vc X15_13 hx hZ hown (rmCA_L4 l Z a0 hw [] tx vb kb x0 x1 x2 x4 cc fv ra h15_8 n0 (Nat.le_trans Z0 (Keep.of_wr W15_8).1) (Et.wr W15_8) (Svt.other W15_8 (Or.inl nx)) (Sct.other W15_8 (Or.inl nx)) (Vt.other W15_8 nv) d0 d1 d2 l4 ⟨(O_0.wr W15_8 g_r0), S_c, hcc, S_f, hfv, S_r⟩) (own_w hw 124 rfl) (own_w hw 125 rfl) (own_w hw 127 rfl) (own_w hw 126 rfl) (own_w hw 128 rfl) (own_w hw 19 rfl) (by decide) hml rfl (Et.wr W15_8) e15_13 (hb hby d15_22) rfl rfl (lenOf pd15_1 rfl) (W := 0) rfl (by decide) (by decide) (c' := 0) (s' := 0) rfl rfl (by decide) (by decide) ?_
  rintro _ T15_14 L15_14 X15_14 ⟨rfl, N15_14q, e15_14⟩
  have N15_14 := Fr.app N15_11 N15_14q
  refine own_fw (fun _ => ox_bipush X15_14.here hx (hb hby d15_25)) ?_
  refine own_fw (fun _ => ox_icmpYes X15_14.here hx (pc0 := 27) (pc' := 43) rfl (hb hby d15_27) rfl (feq (own_ln l4)).2 (by decide) (by decide)) ?_
  exact own_leaf X15_14 (v := none) (fun _ => rfl) (BodyLoose.notSynchronized Bd) e15_14 (⟨rfl, N15_14, ((Keep.refl h0 [r0]).wr W15_8 (Or.inl (List.mem_of_getElem? (i := 0) rfl))), (Ex.wr W15_8), (Fx.other W15_8 (Or.inr (slot_ne (Or.inr (own_w hw 100 rfl)) (Or.inl (own_w hw 102 rfl)) (by decide) (t := (.object "java/lang/String")) (t' := .int) (by decide) (by decide)))), Fw15_8⟩) (by decide) (by decide) (fun fs hr => X15_14.returnOut hx Bd.returns (hb hby d15_43) hr)
theorem rmNU_L (l : Launch) (Z : State) (a0 : Array Value) (hw : ∀ d ∈ tables_1, d.before a0 Z = true) (ws : List Jvm.Cond) (r0 : Addr) (tx : Addr) (vb : Addr) (kb : ClassId) (x0 : Int32) (x1 : Int32) (x2 : Int32) (x4 : Int32) (cc : Int32) (fv : Value) (ra : Addr) (h0 : Heap) (n0 : Nat) (Z0 : n0 ≤ h0.size) (Ex : Exa Z h0 r0 "com/example/copperline/copperline/Lexer") (Fx : Fld Z h0 r0 "com/example/copperline/copperline/Lexer" "text" "Ljava/lang/String;" (.ref tx)) (Fp : Fld Z h0 r0 "com/example/copperline/copperline/Lexer" "position" "I" (.int (0 : Int32))) (Et : Exa Z h0 tx "java/lang/String") (Svt : Fld Z h0 tx "java/lang/String" "value" "[B" (.ref vb)) (Sct : Fld Z h0 tx "java/lang/String" "coder" "B" (.int 0)) (Vt : Arv Z h0 vb kb .byte (5 : Int32) [(.int x0), (.int x1), (.int x2), (.int (32 : Int32)), (.int x4)] (.int 0)) (d0 : own_dig x0) (d1 : own_dig x1) (d2 : own_dig x2) (l4 : own_let x4) (nx : tx ≠ r0) (nv : vb ≠ r0) (g_r0 : n0 ≤ r0) (OO : OwnOld Z n0 h0 cc fv ra) : OwnC l Z mN18 (Jvm.Cond.code mN18 prog_36_method_15_code 4 (some .int) :: ws) ({ frames := 6, cells := 0, slots := 0, locals := 80 } : Room) #[(.ref r0)] h0 (Q14 Z r0 tx (own_num x0 x1 x2) (3 : Int32) h0 n0) := by
  refine own_body (plainFor_of_name pn14) (fun m => ef14 m r0) ?_
  intro p e s m below meth c s₁ Bd hZ hml hown e0 hx hby hnm X0
  have N0 := Fr.nil n0
  obtain ⟨O_0, S_c, hcc, S_f, hfv, S_r⟩ := OO
  refine own_fw (fun _ => ox_aloadN X0.here hx (hb hby d14_0) rfl rfl) ?_
  refine own_pc X0 hx hZ hown (rmSK_L0 l Z a0 hw [] r0 tx vb kb x0 x1 x2 x4 cc fv ra h0 n0 Z0 Ex Fx Fp Et Svt Sct Vt d0 d1 d2 l4 nx nv g_r0 ⟨O_0, S_c, hcc, S_f, hfv, S_r⟩) (own_w hw 110 rfl) (own_w hw 112 rfl) (own_selP (y := mN4) (own_w hw 88 rfl) (own_w hw 112 rfl) (own_w hw 111 rfl) (by decide)) (own_w hw 111 rfl) (own_w hw 113 rfl) (own_w hw 89 rfl) (by decide) hml rfl Ex e0 (hb hby d14_1) rfl rfl (lenOf pd14_0 rfl) (W := 0) rfl (by decide) (by decide) (c' := 0) (s' := 0) rfl rfl (by decide) (by decide) ?_
  rintro _ T14_1 L14_1 X14_1 ⟨rfl, N14_1q, K14_1, Ex14_1, Fx14_1, Fp14_1⟩
  have N14_1 := Fr.app N0 N14_1q
  refine own_fw (fun _ => ox_aloadN X14_1.here hx (hb hby d14_4) rfl rfl) ?_
  refine own_fw (fun _ => ox_aloadN X14_1.here hx (hb hby d14_5) rfl rfl) ?_
  refine own_gf X14_1 hx hZ hown (own_w hw 101 rfl) Via.refl rfl Fp14_1 (hb hby d14_6) rfl fun T14_2 X14_2 e14_2 => ?_
  refine own_pc X14_2 hx hZ hown (rmDF_L l Z a0 hw [] r0 tx vb kb (0 : Int32) x0 x1 x2 x4 cc fv ra T14_1.heap n0 (Nat.le_trans Z0 K14_1.1) Ex14_1 Fx14_1 Fp14_1 (Et.keep K14_1) (Svt.keep K14_1 (fun q => nx (List.mem_singleton.mp q))) (Sct.keep K14_1 (fun q => nx (List.mem_singleton.mp q))) (Vt.keep K14_1 (fun q => nv (List.mem_singleton.mp q))) d0 d1 d2 l4 ⟨(O_0.keep K14_1 (allS g_r0 all0)), S_c, hcc, S_f, hfv, S_r⟩) (own_w hw 146 rfl) (own_w hw 148 rfl) (own_selP (y := mN9) (own_w hw 88 rfl) (own_w hw 148 rfl) (own_w hw 147 rfl) (by decide)) (own_w hw 147 rfl) (own_w hw 149 rfl) (own_w hw 89 rfl) (by decide) hml rfl Ex14_1 e14_2 (hb hby d14_9) rfl rfl (lenOf pd14_1 rfl) (W := 0) rfl (by decide) (by decide) (c' := 0) (s' := 0) rfl rfl (by decide) (by decide) ?_
  rintro _ T14_3 L14_3 X14_3 ⟨rfl, N14_3q, e14_3⟩
  have N14_3 := Fr.app N14_1 N14_3q
  refine own_fw (fun _ => ox_istoreN X14_3.here hx (hb hby d14_12) rfl (l' := #[.val (.ref r0), .val (.int (3 : Int32)), .unset, .unset]) rfl) ?_
  refine own_fw (fun _ => ox_iloadN X14_3.here hx (hb hby d14_13) rfl) ?_
  refine own_fw (fun _ => ox_aloadN X14_3.here hx (hb hby d14_14) rfl rfl) ?_
  refine own_gf X14_3 hx hZ hown (own_w hw 101 rfl) Via.refl e14_3 Fp14_1 (hb hby d14_15) rfl fun T14_4 X14_4 e14_4 => ?_
  refine own_fw (fun _ => ox_icmpNo X14_4.here hx (hb hby d14_18) rfl (tlt (by decide : ((0 : Int32) < (3 : Int32)))).2.2.2) ?_
  refine own_fw (fun _ => ox_iconst X14_4.here hx (hb hby d14_21)) ?_
  refine own_fw (fun _ => ox_goto X14_4.here hx (pc0 := 22) (pc' := 26) rfl (hb hby d14_22) (by decide) (by decide)) ?_
  refine own_fw (fun _ => ox_istoreN X14_4.here hx (hb hby d14_26) rfl (l' := #[.val (.ref r0), .val (.int (3 : Int32)), .val (.int (0 : Int32)), .unset]) rfl) ?_
  refine own_fw (fun _ => ox_aloadN X14_4.here hx (hb hby d14_27) rfl rfl) ?_
  refine own_gf X14_4 hx hZ hown (own_w hw 101 rfl) Via.refl e14_4 Fp14_1 (hb hby d14_28) rfl fun T14_5 X14_5 e14_5 => ?_
  refine own_fw (fun _ => ox_istoreN X14_5.here hx (hb hby d14_31) rfl (l' := #[.val (.ref r0), .val (.int (3 : Int32)), .val (.int (0 : Int32)), .val (.int (0 : Int32))]) rfl) ?_
  refine own_fw (fun _ => ox_iloadN X14_5.here hx (hb hby d14_32) rfl) ?_
  refine own_fw (fun _ => ox_iloadN X14_5.here hx (hb hby d14_33) rfl) ?_
  refine own_fw (fun _ => ox_icmpNo X14_5.here hx (hb hby d14_34) rfl (tlt (by decide : ((0 : Int32) < (3 : Int32)))).2.1) ?_
  refine own_fw (fun _ => ox_iloadN X14_5.here hx (hb hby d14_37) rfl) ?_
  refine own_fw (fun _ => ox_ifNo X14_5.here hx (hb hby d14_38) rfl ((if0 _ _).trans (flt (Int32.lt_irrefl : ¬ ((0 : Int32) < (0 : Int32)))).1)) ?_
  refine own_fw (fun _ => ox_iloadN X14_5.here hx (hb hby d14_41) rfl) ?_
  refine own_fw (fun _ => ox_bipush X14_5.here hx (hb hby d14_42)) ?_
  refine own_fw (fun _ => ox_imul X14_5.here hx (hb hby d14_44) rfl) ?_
  refine own_fw (fun _ => ox_aloadN X14_5.here hx (hb hby d14_45) rfl rfl) ?_
  refine own_gf X14_5 hx hZ hown (own_w hw 99 rfl) Via.refl e14_5 Fx14_1 (hb hby d14_46) rfl fun T14_6 X14_6 e14_6 => ?_
  refine own_fw (fun _ => ox_iloadN X14_6.here hx (hb hby d14_49) rfl) ?_
  refine own_vc X14_6 hx hZ hown (rmCA_L0 l Z a0 hw [] tx vb kb x0 x1 x2 x4 cc fv ra T14_1.heap n0 (Nat.le_trans Z0 K14_1.1) (Et.keep K14_1) (Svt.keep K14_1 (fun q => nx (List.mem_singleton.mp q))) (Sct.keep K14_1 (fun q => nx (List.mem_singleton.mp q))) (Vt.keep K14_1 (fun q => nv (List.mem_singleton.mp q))) d0 d1 d2 l4 ⟨(O_0.keep K14_1 (allS g_r0 all0)), S_c, hcc, S_f, hfv, S_r⟩) (own_w hw 124 rfl) (own_w hw 125 rfl) (own_w hw 127 rfl) (own_w hw 126 rfl) (own_w hw 128 rfl) (own_w hw 19 rfl) (by decide) hml rfl (Et.keep K14_1) e14_6 (hb hby d14_50) rfl rfl (lenOf pd14_2 rfl) (W := 1) rfl (by decide) (by decide) (c' := 0) (s' := 0) rfl rfl (by decide) (by decide) ?_
  rintro _ T14_7 L14_7 X14_7 ⟨rfl, N14_7q, e14_7⟩
  have N14_7 := Fr.app N14_3 N14_7q
  refine own_fw (fun _ => ox_bipush X14_7.here hx (hb hby d14_53)) ?_
  refine own_fw (fun _ => ox_isub X14_7.here hx (hb hby d14_55) rfl) ?_
  refine own_fw (fun _ => ox_iadd X14_7.here hx (hb hby d14_56) rfl) ?_
  refine own_fw (fun _ => ox_istoreN X14_7.here hx (hb hby d14_57) rfl (l' := #[.val (.ref r0), .val (.int (3 : Int32)), .val (.int ((0 : Int32) + (x0 - (48 : Int32)))), .val (.int (0 : Int32))]) rfl) ?_
  refine own_fw (fun _ => ox_iloadN X14_7.here hx (hb hby d14_58) rfl) ?_
  refine own_fw (A := T14_7.setTop (mkF m 61 #[.val (.ref r0), .val (.int (3 : Int32)), .val (.int ((0 : Int32) + (x0 - (48 : Int32)))), .val (.int (0 : Int32))] [(.int (65529 : Int32)), (.int ((0 : Int32) + (x0 - (48 : Int32))))])) (fun t k => X14_7.ldcInt hx hown (mvT hZ (own_w hw 157 rfl)) (g := (mkF m 59 #[.val (.ref r0), .val (.int (3 : Int32)), .val (.int ((0 : Int32) + (x0 - (48 : Int32)))), .val (.int (0 : Int32))] [(.int ((0 : Int32) + (x0 - (48 : Int32))))])) rfl (hb hby d14_59) _ k) ?_
  refine own_fw (fun _ => ox_icmpYes X14_7.here hx (pc0 := 61) (pc' := 66) rfl (hb hby d14_61) rfl (flt (own_k1 d0).2).2.2.2 (by decide) (by decide)) ?_
  refine own_fw (fun _ => ox_iinc X14_7.here hx (hb hby d14_66) rfl (l' := #[.val (.ref r0), .val (.int (3 : Int32)), .val (.int ((0 : Int32) + (x0 - (48 : Int32)))), .val (.int (1 : Int32))]) rfl) ?_
  refine own_fw (fun _ => ox_goto X14_7.here hx (pc0 := 69) (pc' := 32) rfl (hb hby d14_69) (by decide) (by decide)) ?_
  refine own_fw (fun _ => ox_iloadN X14_7.here hx (hb hby d14_32) rfl) ?_
  refine own_fw (fun _ => ox_iloadN X14_7.here hx (hb hby d14_33) rfl) ?_
  refine own_fw (fun _ => ox_icmpNo X14_7.here hx (hb hby d14_34) rfl (tlt (by decide : ((1 : Int32) < (3 : Int32)))).2.1) ?_
  refine own_fw (fun _ => ox_iloadN X14_7.here hx (hb hby d14_37) rfl) ?_
  refine own_fw (fun _ => ox_ifNo X14_7.here hx (hb hby d14_38) rfl ((if0 _ _).trans (flt (own_k1 d0).1).1)) ?_
  refine own_fw (fun _ => ox_iloadN X14_7.here hx (hb hby d14_41) rfl) ?_
  refine own_fw (fun _ => ox_bipush X14_7.here hx (hb hby d14_42)) ?_
  refine own_fw (fun _ => ox_imul X14_7.here hx (hb hby d14_44) rfl) ?_
  refine own_fw (fun _ => ox_aloadN X14_7.here hx (hb hby d14_45) rfl rfl) ?_
  refine own_gf X14_7 hx hZ hown (own_w hw 99 rfl) Via.refl e14_7 Fx14_1 (hb hby d14_46) rfl fun T14_8 X14_8 e14_8 => ?_
  refine own_fw (fun _ => ox_iloadN X14_8.here hx (hb hby d14_49) rfl) ?_
  refine own_vc X14_8 hx hZ hown (rmCA_L1 l Z a0 hw [] tx vb kb x0 x1 x2 x4 cc fv ra T14_1.heap n0 (Nat.le_trans Z0 K14_1.1) (Et.keep K14_1) (Svt.keep K14_1 (fun q => nx (List.mem_singleton.mp q))) (Sct.keep K14_1 (fun q => nx (List.mem_singleton.mp q))) (Vt.keep K14_1 (fun q => nv (List.mem_singleton.mp q))) d0 d1 d2 l4 ⟨(O_0.keep K14_1 (allS g_r0 all0)), S_c, hcc, S_f, hfv, S_r⟩) (own_w hw 124 rfl) (own_w hw 125 rfl) (own_w hw 127 rfl) (own_w hw 126 rfl) (own_w hw 128 rfl) (own_w hw 19 rfl) (by decide) hml rfl (Et.keep K14_1) e14_8 (hb hby d14_50) rfl rfl (lenOf pd14_2 rfl) (W := 1) rfl (by decide) (by decide) (c' := 0) (s' := 0) rfl rfl (by decide) (by decide) ?_
  rintro _ T14_9 L14_9 X14_9 ⟨rfl, N14_9q, e14_9⟩
  have N14_9 := Fr.app N14_7 N14_9q
  refine own_fw (fun _ => ox_bipush X14_9.here hx (hb hby d14_53)) ?_
  refine own_fw (fun _ => ox_isub X14_9.here hx (hb hby d14_55) rfl) ?_
  refine own_fw (fun _ => ox_iadd X14_9.here hx (hb hby d14_56) rfl) ?_
  refine own_fw (fun _ => ox_istoreN X14_9.here hx (hb hby d14_57) rfl (l' := #[.val (.ref r0), .val (.int (3 : Int32)), .val (.int ((((0 : Int32) + (x0 - (48 : Int32))) * (10 : Int32)) + (x1 - (48 : Int32)))), .val (.int (1 : Int32))]) rfl) ?_
  refine own_fw (fun _ => ox_iloadN X14_9.here hx (hb hby d14_58) rfl) ?_
  refine own_fw (A := T14_9.setTop (mkF m 61 #[.val (.ref r0), .val (.int (3 : Int32)), .val (.int ((((0 : Int32) + (x0 - (48 : Int32))) * (10 : Int32)) + (x1 - (48 : Int32)))), .val (.int (1 : Int32))] [(.int (65529 : Int32)), (.int ((((0 : Int32) + (x0 - (48 : Int32))) * (10 : Int32)) + (x1 - (48 : Int32))))])) (fun t k => X14_9.ldcInt hx hown (mvT hZ (own_w hw 157 rfl)) (g := (mkF m 59 #[.val (.ref r0), .val (.int (3 : Int32)), .val (.int ((((0 : Int32) + (x0 - (48 : Int32))) * (10 : Int32)) + (x1 - (48 : Int32)))), .val (.int (1 : Int32))] [(.int ((((0 : Int32) + (x0 - (48 : Int32))) * (10 : Int32)) + (x1 - (48 : Int32))))])) rfl (hb hby d14_59) _ k) ?_
  refine own_fw (fun _ => ox_icmpYes X14_9.here hx (pc0 := 61) (pc' := 66) rfl (hb hby d14_61) rfl (flt (own_k2 d0 d1).2).2.2.2 (by decide) (by decide)) ?_
  refine own_fw (fun _ => ox_iinc X14_9.here hx (hb hby d14_66) rfl (l' := #[.val (.ref r0), .val (.int (3 : Int32)), .val (.int ((((0 : Int32) + (x0 - (48 : Int32))) * (10 : Int32)) + (x1 - (48 : Int32)))), .val (.int (2 : Int32))]) rfl) ?_
  refine own_fw (fun _ => ox_goto X14_9.here hx (pc0 := 69) (pc' := 32) rfl (hb hby d14_69) (by decide) (by decide)) ?_
  refine own_fw (fun _ => ox_iloadN X14_9.here hx (hb hby d14_32) rfl) ?_
  refine own_fw (fun _ => ox_iloadN X14_9.here hx (hb hby d14_33) rfl) ?_
  refine own_fw (fun _ => ox_icmpNo X14_9.here hx (hb hby d14_34) rfl (tlt (by decide : ((2 : Int32) < (3 : Int32)))).2.1) ?_
  refine own_fw (fun _ => ox_iloadN X14_9.here hx (hb hby d14_37) rfl) ?_
  refine own_fw (fun _ => ox_ifNo X14_9.here hx (hb hby d14_38) rfl ((if0 _ _).trans (flt (own_k2 d0 d1).1).1)) ?_
  refine own_fw (fun _ => ox_iloadN X14_9.here hx (hb hby d14_41) rfl) ?_
  refine own_fw (fun _ => ox_bipush X14_9.here hx (hb hby d14_42)) ?_
  refine own_fw (fun _ => ox_imul X14_9.here hx (hb hby d14_44) rfl) ?_
  refine own_fw (fun _ => ox_aloadN X14_9.here hx (hb hby d14_45) rfl rfl) ?_
  refine own_gf X14_9 hx hZ hown (own_w hw 99 rfl) Via.refl e14_9 Fx14_1 (hb hby d14_46) rfl fun T14_10 X14_10 e14_10 => ?_
  refine own_fw (fun _ => ox_iloadN X14_10.here hx (hb hby d14_49) rfl) ?_
  refine own_vc X14_10 hx hZ hown (rmCA_L2 l Z a0 hw [] tx vb kb x0 x1 x2 x4 cc fv ra T14_1.heap n0 (Nat.le_trans Z0 K14_1.1) (Et.keep K14_1) (Svt.keep K14_1 (fun q => nx (List.mem_singleton.mp q))) (Sct.keep K14_1 (fun q => nx (List.mem_singleton.mp q))) (Vt.keep K14_1 (fun q => nv (List.mem_singleton.mp q))) d0 d1 d2 l4 ⟨(O_0.keep K14_1 (allS g_r0 all0)), S_c, hcc, S_f, hfv, S_r⟩) (own_w hw 124 rfl) (own_w hw 125 rfl) (own_w hw 127 rfl) (own_w hw 126 rfl) (own_w hw 128 rfl) (own_w hw 19 rfl) (by decide) hml rfl (Et.keep K14_1) e14_10 (hb hby d14_50) rfl rfl (lenOf pd14_2 rfl) (W := 1) rfl (by decide) (by decide) (c' := 0) (s' := 0) rfl rfl (by decide) (by decide) ?_
  rintro _ T14_11 L14_11 X14_11 ⟨rfl, N14_11q, e14_11⟩
  have N14_11 := Fr.app N14_9 N14_11q
  refine own_fw (fun _ => ox_bipush X14_11.here hx (hb hby d14_53)) ?_
  refine own_fw (fun _ => ox_isub X14_11.here hx (hb hby d14_55) rfl) ?_
  refine own_fw (fun _ => ox_iadd X14_11.here hx (hb hby d14_56) rfl) ?_
  refine own_fw (fun _ => ox_istoreN X14_11.here hx (hb hby d14_57) rfl (l' := #[.val (.ref r0), .val (.int (3 : Int32)), .val (.int ((((((0 : Int32) + (x0 - (48 : Int32))) * (10 : Int32)) + (x1 - (48 : Int32))) * (10 : Int32)) + (x2 - (48 : Int32)))), .val (.int (2 : Int32))]) rfl) ?_
  refine own_fw (fun _ => ox_iloadN X14_11.here hx (hb hby d14_58) rfl) ?_
  refine own_fw (A := T14_11.setTop (mkF m 61 #[.val (.ref r0), .val (.int (3 : Int32)), .val (.int ((((((0 : Int32) + (x0 - (48 : Int32))) * (10 : Int32)) + (x1 - (48 : Int32))) * (10 : Int32)) + (x2 - (48 : Int32)))), .val (.int (2 : Int32))] [(.int (65529 : Int32)), (.int ((((((0 : Int32) + (x0 - (48 : Int32))) * (10 : Int32)) + (x1 - (48 : Int32))) * (10 : Int32)) + (x2 - (48 : Int32))))])) (fun t k => X14_11.ldcInt hx hown (mvT hZ (own_w hw 157 rfl)) (g := (mkF m 59 #[.val (.ref r0), .val (.int (3 : Int32)), .val (.int ((((((0 : Int32) + (x0 - (48 : Int32))) * (10 : Int32)) + (x1 - (48 : Int32))) * (10 : Int32)) + (x2 - (48 : Int32)))), .val (.int (2 : Int32))] [(.int ((((((0 : Int32) + (x0 - (48 : Int32))) * (10 : Int32)) + (x1 - (48 : Int32))) * (10 : Int32)) + (x2 - (48 : Int32))))])) rfl (hb hby d14_59) _ k) ?_
  refine own_fw (fun _ => ox_icmpYes X14_11.here hx (pc0 := 61) (pc' := 66) rfl (hb hby d14_61) rfl (flt (own_k3 d0 d1 d2).2).2.2.2 (by decide) (by decide)) ?_
  refine own_fw (fun _ => ox_iinc X14_11.here hx (hb hby d14_66) rfl (l' := #[.val (.ref r0), .val (.int (3 : Int32)), .val (.int ((((((0 : Int32) + (x0 - (48 : Int32))) * (10 : Int32)) + (x1 - (48 : Int32))) * (10 : Int32)) + (x2 - (48 : Int32)))), .val (.int (3 : Int32))]) rfl) ?_
  refine own_fw (fun _ => ox_goto X14_11.here hx (pc0 := 69) (pc' := 32) rfl (hb hby d14_69) (by decide) (by decide)) ?_
  refine own_fw (fun _ => ox_iloadN X14_11.here hx (hb hby d14_32) rfl) ?_
  refine own_fw (fun _ => ox_iloadN X14_11.here hx (hb hby d14_33) rfl) ?_
  refine own_fw (fun _ => ox_icmpYes X14_11.here hx (pc0 := 34) (pc' := 72) rfl (hb hby d14_34) rfl (flt (Int32.lt_irrefl : ¬ ((3 : Int32) < (3 : Int32)))).2.1 (by decide) (by decide)) ?_
  refine own_fw (fun _ => ox_iloadN X14_11.here hx (hb hby d14_72) rfl) ?_
  refine own_fw (fun _ => ox_ifNo X14_11.here hx (hb hby d14_73) rfl ((if0 _ _).trans (flt (own_k3 d0 d1 d2).1).1)) ?_
  refine own_fw (fun _ => ox_aloadN X14_11.here hx (hb hby d14_76) rfl rfl) ?_
  refine own_fw (fun _ => ox_iloadN X14_11.here hx (hb hby d14_77) rfl) ?_
  obtain ⟨T14_12, h14_12, X14_12, e14_12, W14_12, st14_12⟩ := putF X14_11 hx hZ hown (host := "") (Or.inl (own_w hw 101 rfl)) Via.refl e14_11 Fp14_1 Ex14_1 (Or.inl (own_w hw 102 rfl)) (own_w hw 88 rfl) (ty := .int) (by decide) rfl rfl (g := (mkF m 78 #[.val (.ref r0), .val (.int (3 : Int32)), .val (.int ((((((0 : Int32) + (x0 - (48 : Int32))) * (10 : Int32)) + (x1 - (48 : Int32))) * (10 : Int32)) + (x2 - (48 : Int32)))), .val (.int (3 : Int32))] [(.int (3 : Int32)), (.ref r0)])) rfl rfl (hb hby d14_78)
  have Fw14_12 := Fp14_1.same W14_12
  have N14_12 := Fr.snoc X14_12 N14_11 g_r0
  refine own_fw (A := T14_12.setTop (mkF m 81 #[.val (.ref r0), .val (.int (3 : Int32)), .val (.int ((((((0 : Int32) + (x0 - (48 : Int32))) * (10 : Int32)) + (x1 - (48 : Int32))) * (10 : Int32)) + (x2 - (48 : Int32)))), .val (.int (3 : Int32))] [])) st14_12 ?_
  refine own_fw (fun _ => ox_iloadN X14_12.here hx (hb hby d14_81) rfl) ?_
  exact own_leaf X14_12 (v := some (.int ((((((0 : Int32) + (x0 - (48 : Int32))) * (10 : Int32)) + (x1 - (48 : Int32))) * (10 : Int32)) + (x2 - (48 : Int32))))) (own_ret Bd.returns) (BodyLoose.notSynchronized Bd) e14_12 (⟨rfl, N14_12, (((Keep.refl h0 [r0]).trans K14_1 (allS (Or.inl (List.mem_of_getElem? (i := 0) rfl)) all0)).wr W14_12 (Or.inl (List.mem_of_getElem? (i := 0) rfl))), (Ex14_1.wr W14_12), (Fx14_1.other W14_12 (Or.inr (slot_ne (Or.inr (own_w hw 100 rfl)) (Or.inl (own_w hw 102 rfl)) (by decide) (t := (.object "java/lang/String")) (t' := .int) (by decide) (by decide)))), Fw14_12⟩) (by decide) (by decide) (fun fs hr => retI X14_12 hx Bd.returns (hb hby d14_82) hr)
theorem rmXC_Z0 (l : Launch) (Z : State) (a0 : Array Value) (hw : ∀ d ∈ tables_1, d.before a0 Z = true) (ws : List Jvm.Cond) (r0 : Addr) (tx : Addr) (vb : Addr) (kb : ClassId) (po : Int32) (cc : Int32) (fv : Value) (ra : Addr) (h0 : Heap) (n0 : Nat) (Z0 : n0 ≤ h0.size) (Ex : Exa Z h0 r0 "com/example/copperline/copperline/Lexer") (Fx : Fld Z h0 r0 "com/example/copperline/copperline/Lexer" "text" "Ljava/lang/String;" (.ref tx)) (Fp : Fld Z h0 r0 "com/example/copperline/copperline/Lexer" "position" "I" (.int po)) (Et : Exa Z h0 tx "java/lang/String") (Svt : Fld Z h0 tx "java/lang/String" "value" "[B" (.ref vb)) (Sct : Fld Z h0 tx "java/lang/String" "coder" "B" (.int 0)) (Vt : Arv Z h0 vb kb .byte (4 : Int32) [(.int (48 : Int32)), (.int (32 : Int32)), (.int (90 : Int32)), (.int (90 : Int32))] (.int 0)) (OO : OwnOld Z n0 h0 cc fv ra) : OwnC l Z mN0 (Jvm.Cond.code mN0 prog_36_method_26_code 2 (some .char) :: ws) ({ frames := 4, cells := 0, slots := 0, locals := 53 } : Room) #[(.ref r0), (.int (0 : Int32))] h0 (Q24 Z (48 : Int32) h0 n0) := by
  refine own_body (plainFor_of_name pn24) (fun m => ef24 m r0 (0 : Int32)) ?_
  intro p e s m below meth c s₁ Bd hZ hml hown e0 hx hby hnm X0
  have N0 := Fr.nil n0
  obtain ⟨O_0, S_c, hcc, S_f, hfv, S_r⟩ := OO
  refine own_fw (fun _ => ox_iloadN X0.here hx (hb hby d24_0) rfl) ?_
  refine own_fw (fun _ => ox_aloadN X0.here hx (hb hby d24_1) rfl rfl) ?_
  refine own_gf X0 hx hZ hown (own_w hw 99 rfl) Via.refl e0 Fx (hb hby d24_2) rfl fun T24_1 X24_1 e24_1 => ?_
  refine own_vc X24_1 hx hZ hown (rmLN_Z l Z a0 hw [] tx vb kb cc fv ra h0 n0 Z0 Et Svt Sct Vt ⟨O_0, S_c, hcc, S_f, hfv, S_r⟩) (own_w hw 114 rfl) (own_w hw 115 rfl) (own_w hw 117 rfl) (own_w hw 116 rfl) (own_w hw 118 rfl) (own_w hw 19 rfl) (by decide) hml rfl Et e24_1 (hb hby d24_5) rfl rfl (lenOf pd24_0 rfl) (W := 1) rfl (by decide) (by decide) (c' := 0) (s' := 0) rfl rfl (by decide) (by decide) ?_
  rintro _ T24_2 L24_2 X24_2 ⟨rfl, N24_2q, e24_2⟩
  have N24_2 := Fr.app N0 N24_2q
  refine own_fw (fun _ => ox_icmpNo X24_2.here hx (hb hby d24_8) rfl (tlt (by decide : ((0 : Int32) < (4 : Int32)))).2.1) ?_
  refine own_fw (fun _ => ox_aloadN X24_2.here hx (hb hby d24_11) rfl rfl) ?_
  refine own_gf X24_2 hx hZ hown (own_w hw 99 rfl) Via.refl e24_2 Fx (hb hby d24_12) rfl fun T24_3 X24_3 e24_3 => ?_
  refine own_fw (fun _ => ox_iloadN X24_3.here hx (hb hby d24_15) rfl) ?_
  refine own_vc X24_3 hx hZ hown (rmCA_Z0 l Z a0 hw [] tx vb kb cc fv ra h0 n0 Z0 Et Svt Sct Vt ⟨O_0, S_c, hcc, S_f, hfv, S_r⟩) (own_w hw 124 rfl) (own_w hw 125 rfl) (own_w hw 127 rfl) (own_w hw 126 rfl) (own_w hw 128 rfl) (own_w hw 19 rfl) (by decide) hml rfl Et e24_3 (hb hby d24_16) rfl rfl (lenOf pd24_1 rfl) (W := 0) rfl (by decide) (by decide) (c' := 0) (s' := 0) rfl rfl (by decide) (by decide) ?_
  rintro _ T24_4 L24_4 X24_4 ⟨rfl, N24_4q, e24_4⟩
  have N24_4 := Fr.app N24_2 N24_4q
  refine own_fw (fun _ => ox_goto X24_4.here hx (pc0 := 19) (pc' := 23) rfl (hb hby d24_19) (by decide) (by decide)) ?_
  exact own_leaf X24_4 (v := some (.int (nar .char (48 : Int32)))) (own_ret Bd.returns) (BodyLoose.notSynchronized Bd) e24_4 (⟨congrArg (fun z => some (Value.int z)) (own_nc own_a48), N24_4, rfl⟩) (by decide) (by decide) (fun fs hr => retN X24_4 hx (t := .char) Bd.returns (by simp) (hb hby d24_23) hr)
theorem rmXC_Z1 (l : Launch) (Z : State) (a0 : Array Value) (hw : ∀ d ∈ tables_1, d.before a0 Z = true) (ws : List Jvm.Cond) (r0 : Addr) (tx : Addr) (vb : Addr) (kb : ClassId) (po : Int32) (cc : Int32) (fv : Value) (ra : Addr) (h0 : Heap) (n0 : Nat) (Z0 : n0 ≤ h0.size) (Ex : Exa Z h0 r0 "com/example/copperline/copperline/Lexer") (Fx : Fld Z h0 r0 "com/example/copperline/copperline/Lexer" "text" "Ljava/lang/String;" (.ref tx)) (Fp : Fld Z h0 r0 "com/example/copperline/copperline/Lexer" "position" "I" (.int po)) (Et : Exa Z h0 tx "java/lang/String") (Svt : Fld Z h0 tx "java/lang/String" "value" "[B" (.ref vb)) (Sct : Fld Z h0 tx "java/lang/String" "coder" "B" (.int 0)) (Vt : Arv Z h0 vb kb .byte (4 : Int32) [(.int (48 : Int32)), (.int (32 : Int32)), (.int (90 : Int32)), (.int (90 : Int32))] (.int 0)) (OO : OwnOld Z n0 h0 cc fv ra) : OwnC l Z mN0 (Jvm.Cond.code mN0 prog_36_method_26_code 2 (some .char) :: ws) ({ frames := 4, cells := 0, slots := 0, locals := 53 } : Room) #[(.ref r0), (.int (1 : Int32))] h0 (Q24 Z (32 : Int32) h0 n0) := by
  refine own_body (plainFor_of_name pn24) (fun m => ef24 m r0 (1 : Int32)) ?_
  intro p e s m below meth c s₁ Bd hZ hml hown e0 hx hby hnm X0
  have N0 := Fr.nil n0
  obtain ⟨O_0, S_c, hcc, S_f, hfv, S_r⟩ := OO
  refine own_fw (fun _ => ox_iloadN X0.here hx (hb hby d24_0) rfl) ?_
  refine own_fw (fun _ => ox_aloadN X0.here hx (hb hby d24_1) rfl rfl) ?_
  refine own_gf X0 hx hZ hown (own_w hw 99 rfl) Via.refl e0 Fx (hb hby d24_2) rfl fun T24_1 X24_1 e24_1 => ?_
  refine own_vc X24_1 hx hZ hown (rmLN_Z l Z a0 hw [] tx vb kb cc fv ra h0 n0 Z0 Et Svt Sct Vt ⟨O_0, S_c, hcc, S_f, hfv, S_r⟩) (own_w hw 114 rfl) (own_w hw 115 rfl) (own_w hw 117 rfl) (own_w hw 116 rfl) (own_w hw 118 rfl) (own_w hw 19 rfl) (by decide) hml rfl Et e24_1 (hb hby d24_5) rfl rfl (lenOf pd24_0 rfl) (W := 1) rfl (by decide) (by decide) (c' := 0) (s' := 0) rfl rfl (by decide) (by decide) ?_
  rintro _ T24_2 L24_2 X24_2 ⟨rfl, N24_2q, e24_2⟩
  have N24_2 := Fr.app N0 N24_2q
  refine own_fw (fun _ => ox_icmpNo X24_2.here hx (hb hby d24_8) rfl (tlt (by decide : ((1 : Int32) < (4 : Int32)))).2.1) ?_
  refine own_fw (fun _ => ox_aloadN X24_2.here hx (hb hby d24_11) rfl rfl) ?_
  refine own_gf X24_2 hx hZ hown (own_w hw 99 rfl) Via.refl e24_2 Fx (hb hby d24_12) rfl fun T24_3 X24_3 e24_3 => ?_
  refine own_fw (fun _ => ox_iloadN X24_3.here hx (hb hby d24_15) rfl) ?_
  refine own_vc X24_3 hx hZ hown (rmCA_Z1 l Z a0 hw [] tx vb kb cc fv ra h0 n0 Z0 Et Svt Sct Vt ⟨O_0, S_c, hcc, S_f, hfv, S_r⟩) (own_w hw 124 rfl) (own_w hw 125 rfl) (own_w hw 127 rfl) (own_w hw 126 rfl) (own_w hw 128 rfl) (own_w hw 19 rfl) (by decide) hml rfl Et e24_3 (hb hby d24_16) rfl rfl (lenOf pd24_1 rfl) (W := 0) rfl (by decide) (by decide) (c' := 0) (s' := 0) rfl rfl (by decide) (by decide) ?_
  rintro _ T24_4 L24_4 X24_4 ⟨rfl, N24_4q, e24_4⟩
  have N24_4 := Fr.app N24_2 N24_4q
  refine own_fw (fun _ => ox_goto X24_4.here hx (pc0 := 19) (pc' := 23) rfl (hb hby d24_19) (by decide) (by decide)) ?_
  exact own_leaf X24_4 (v := some (.int (nar .char (32 : Int32)))) (own_ret Bd.returns) (BodyLoose.notSynchronized Bd) e24_4 (⟨congrArg (fun z => some (Value.int z)) (own_nc own_a32), N24_4, rfl⟩) (by decide) (by decide) (fun fs hr => retN X24_4 hx (t := .char) Bd.returns (by simp) (hb hby d24_23) hr)
theorem rmDF_Z (l : Launch) (Z : State) (a0 : Array Value) (hw : ∀ d ∈ tables_1, d.before a0 Z = true) (ws : List Jvm.Cond) (r0 : Addr) (tx : Addr) (vb : Addr) (kb : ClassId) (po : Int32) (cc : Int32) (fv : Value) (ra : Addr) (h0 : Heap) (n0 : Nat) (Z0 : n0 ≤ h0.size) (Ex : Exa Z h0 r0 "com/example/copperline/copperline/Lexer") (Fx : Fld Z h0 r0 "com/example/copperline/copperline/Lexer" "text" "Ljava/lang/String;" (.ref tx)) (Fp : Fld Z h0 r0 "com/example/copperline/copperline/Lexer" "position" "I" (.int po)) (Et : Exa Z h0 tx "java/lang/String") (Svt : Fld Z h0 tx "java/lang/String" "value" "[B" (.ref vb)) (Sct : Fld Z h0 tx "java/lang/String" "coder" "B" (.int 0)) (Vt : Arv Z h0 vb kb .byte (4 : Int32) [(.int (48 : Int32)), (.int (32 : Int32)), (.int (90 : Int32)), (.int (90 : Int32))] (.int 0)) (OO : OwnOld Z n0 h0 cc fv ra) : OwnC l Z mN9 (Jvm.Cond.code mN9 prog_36_method_25_code 3 (some .int) :: ws) ({ frames := 5, cells := 0, slots := 0, locals := 66 } : Room) #[(.ref r0), (.int (0 : Int32))] h0 (Q23 Z (1 : Int32) h0 n0) := by
  refine own_body (plainFor_of_name pn23) (fun m => ef23 m r0 (0 : Int32)) ?_
  intro p e s m below meth c s₁ Bd hZ hml hown e0 hx hby hnm X0
  have N0 := Fr.nil n0
  obtain ⟨O_0, S_c, hcc, S_f, hfv, S_r⟩ := OO
  refine own_fw (fun _ => ox_iloadN X0.here hx (hb hby d23_0) rfl) ?_
  refine own_fw (fun _ => ox_istoreN X0.here hx (hb hby d23_1) rfl (l' := #[.val (.ref r0), .val (.int (0 : Int32)), .val (.int (0 : Int32))]) rfl) ?_
  refine own_fw (fun _ => ox_aloadN X0.here hx (hb hby d23_2) rfl rfl) ?_
  refine own_fw (fun _ => ox_iloadN X0.here hx (hb hby d23_3) rfl) ?_
  refine own_pc X0 hx hZ hown (rmXC_Z0 l Z a0 hw [] r0 tx vb kb po cc fv ra h0 n0 Z0 Ex Fx Fp Et Svt Sct Vt ⟨O_0, S_c, hcc, S_f, hfv, S_r⟩) (own_w hw 150 rfl) (own_w hw 152 rfl) (own_selP (y := mN0) (own_w hw 88 rfl) (own_w hw 152 rfl) (own_w hw 151 rfl) (by decide)) (own_w hw 151 rfl) (own_w hw 153 rfl) (own_w hw 89 rfl) (by decide) hml rfl Ex e0 (hb hby d23_4) rfl rfl (lenOf pd23_0 rfl) (W := 0) rfl (by decide) (by decide) (c' := 0) (s' := 0) rfl rfl (by decide) (by decide) ?_
  rintro _ T23_1 L23_1 X23_1 ⟨rfl, N23_1q, e23_1⟩
  have N23_1 := Fr.app N0 N23_1q
  refine own_sc X23_1 hx hZ hown (rm25 l Z a0 hw [] ((48 : Int32)) h0 n0 Z0 ) (own_w hw 154 rfl) (own_w hw 155 rfl) (own_w hw 156 rfl) (own_w hw 89 rfl) (by decide) hml rfl e23_1 (hb hby d23_7) rfl rfl (lenOf pd23_1 rfl) (W := 0) rfl (by decide) (by decide) (c' := 0) (s' := 0) rfl rfl (by decide) (by decide) ?_
  rintro _ T23_2 L23_2 X23_2 ⟨rfl, N23_2q, e23_2⟩
  have N23_2 := Fr.app N23_1 N23_2q
  refine own_fw (fun _ => ox_ifNo X23_2.here hx (hb hby d23_10) rfl ((if0 _ _).trans (feq (by decide)).1)) ?_
  refine own_fw (fun _ => ox_iinc X23_2.here hx (hb hby d23_13) rfl (l' := #[.val (.ref r0), .val (.int (0 : Int32)), .val (.int (1 : Int32))]) rfl) ?_
  refine own_fw (fun _ => ox_goto X23_2.here hx (pc0 := 16) (pc' := 2) rfl (hb hby d23_16) (by decide) (by decide)) ?_
  refine own_fw (fun _ => ox_aloadN X23_2.here hx (hb hby d23_2) rfl rfl) ?_
  refine own_fw (fun _ => ox_iloadN X23_2.here hx (hb hby d23_3) rfl) ?_
  refine own_pc X23_2 hx hZ hown (rmXC_Z1 l Z a0 hw [] r0 tx vb kb po cc fv ra h0 n0 Z0 Ex Fx Fp Et Svt Sct Vt ⟨O_0, S_c, hcc, S_f, hfv, S_r⟩) (own_w hw 150 rfl) (own_w hw 152 rfl) (own_selP (y := mN0) (own_w hw 88 rfl) (own_w hw 152 rfl) (own_w hw 151 rfl) (by decide)) (own_w hw 151 rfl) (own_w hw 153 rfl) (own_w hw 89 rfl) (by decide) hml rfl Ex e23_2 (hb hby d23_4) rfl rfl (lenOf pd23_0 rfl) (W := 0) rfl (by decide) (by decide) (c' := 0) (s' := 0) rfl rfl (by decide) (by decide) ?_
  rintro _ T23_3 L23_3 X23_3 ⟨rfl, N23_3q, e23_3⟩
  have N23_3 := Fr.app N23_2 N23_3q
  refine own_sc X23_3 hx hZ hown (rm25 l Z a0 hw [] ((32 : Int32)) h0 n0 Z0 ) (own_w hw 154 rfl) (own_w hw 155 rfl) (own_w hw 156 rfl) (own_w hw 89 rfl) (by decide) hml rfl e23_3 (hb hby d23_7) rfl rfl (lenOf pd23_1 rfl) (W := 0) rfl (by decide) (by decide) (c' := 0) (s' := 0) rfl rfl (by decide) (by decide) ?_
  rintro _ T23_4 L23_4 X23_4 ⟨rfl, N23_4q, e23_4⟩
  have N23_4 := Fr.app N23_3 N23_4q
  refine own_fw (fun _ => ox_ifYes X23_4.here hx (pc0 := 10) (pc' := 19) rfl (hb hby d23_10) rfl ((if0 _ _).trans (teq (by decide)).1) (by decide) (by decide)) ?_
  refine own_fw (fun _ => ox_iloadN X23_4.here hx (hb hby d23_19) rfl) ?_
  exact own_leaf X23_4 (v := some (.int (1 : Int32))) (own_ret Bd.returns) (BodyLoose.notSynchronized Bd) e23_4 (⟨rfl, N23_4, rfl⟩) (by decide) (by decide) (fun fs hr => retI X23_4 hx Bd.returns (hb hby d23_20) hr)
theorem rmSK_Z0 (l : Launch) (Z : State) (a0 : Array Value) (hw : ∀ d ∈ tables_1, d.before a0 Z = true) (ws : List Jvm.Cond) (r0 : Addr) (tx : Addr) (vb : Addr) (kb : ClassId) (cc : Int32) (fv : Value) (ra : Addr) (h0 : Heap) (n0 : Nat) (Z0 : n0 ≤ h0.size) (Ex : Exa Z h0 r0 "com/example/copperline/copperline/Lexer") (Fx : Fld Z h0 r0 "com/example/copperline/copperline/Lexer" "text" "Ljava/lang/String;" (.ref tx)) (Fp : Fld Z h0 r0 "com/example/copperline/copperline/Lexer" "position" "I" (.int (0 : Int32))) (Et : Exa Z h0 tx "java/lang/String") (Svt : Fld Z h0 tx "java/lang/String" "value" "[B" (.ref vb)) (Sct : Fld Z h0 tx "java/lang/String" "coder" "B" (.int 0)) (Vt : Arv Z h0 vb kb .byte (4 : Int32) [(.int (48 : Int32)), (.int (32 : Int32)), (.int (90 : Int32)), (.int (90 : Int32))] (.int 0)) (nx : tx ≠ r0) (nv : vb ≠ r0) (g_r0 : n0 ≤ r0) (OO : OwnOld Z n0 h0 cc fv ra) : OwnC l Z mN4 (Jvm.Cond.code mN4 prog_36_method_22_code 1 none :: ws) ({ frames := 4, cells := 0, slots := 0, locals := 53 } : Room) #[(.ref r0)] h0 (Q15 Z r0 tx (0 : Int32) h0 n0) := by
  refine own_body (plainFor_of_name pn15) (fun m => ef15 m r0) ?_
  intro p e s m below meth c s₁ Bd hZ hml hown e0 hx hby hnm X0
  have N0 := Fr.nil n0
  obtain ⟨O_0, S_c, hcc, S_f, hfv, S_r⟩ := OO
  refine own_fw (fun _ => ox_aloadN X0.here hx (hb hby d15_0) rfl rfl) ?_
  refine own_gf X0 hx hZ hown (own_w hw 101 rfl) Via.refl e0 Fp (hb hby d15_1) rfl fun T15_1 X15_1 e15_1 => ?_
  refine own_fw (fun _ => ox_aloadN X15_1.here hx (hb hby d15_4) rfl rfl) ?_
  refine own_gf X15_1 hx hZ hown (own_w hw 99 rfl) Via.refl e15_1 Fx (hb hby d15_5) rfl fun T15_2 X15_2 e15_2 => ?_
  refine own_vc X15_2 hx hZ hown (rmLN_Z l Z a0 hw [] tx vb kb cc fv ra h0 n0 Z0 Et Svt Sct Vt ⟨O_0, S_c, hcc, S_f, hfv, S_r⟩) (own_w hw 114 rfl) (own_w hw 115 rfl) (own_w hw 117 rfl) (own_w hw 116 rfl) (own_w hw 118 rfl) (own_w hw 19 rfl) (by decide) hml rfl Et e15_2 (hb hby d15_8) rfl rfl (lenOf pd15_0 rfl) (W := 1) rfl (by decide) (by decide) (c' := 0) (s' := 0) rfl rfl (by decide) (by decide) ?_
  rintro _ T15_3 L15_3 X15_3 ⟨rfl, N15_3q, e15_3⟩
  have N15_3 := Fr.app N0 N15_3q
  refine own_fw (fun _ => ox_icmpNo X15_3.here hx (hb hby d15_11) rfl (tlt (by decide : ((0 : Int32) < (4 : Int32)))).2.1) ?_
  refine own_fw (fun _ => ox_aloadN X15_3.here hx (hb hby d15_14) rfl rfl) ?_
  refine own_gf X15_3 hx hZ hown (own_w hw 99 rfl) Via.refl e15_3 Fx (hb hby d15_15) rfl fun T15_4 X15_4 e15_4 => ?_
  refine own_fw (fun _ => ox_aloadN X15_4.here hx (hb hby d15_18) rfl rfl) ?_
  refine own_gf X15_4 hx hZ hown (own_w hw 101 rfl) Via.refl e15_4 Fp (hb hby d15_19) rfl fun T15_5 X15_5 e15_5 => ?_
  refine own_vc X15_5 hx hZ hown (rmCA_Z0 l Z a0 hw [] tx vb kb cc fv ra h0 n0 Z0 Et Svt Sct Vt ⟨O_0, S_c, hcc, S_f, hfv, S_r⟩) (own_w hw 124 rfl) (own_w hw 125 rfl) (own_w hw 127 rfl) (own_w hw 126 rfl) (own_w hw 128 rfl) (own_w hw 19 rfl) (by decide) hml rfl Et e15_5 (hb hby d15_22) rfl rfl (lenOf pd15_1 rfl) (W := 0) rfl (by decide) (by decide) (c' := 0) (s' := 0) rfl rfl (by decide) (by decide) ?_
  rintro _ T15_6 L15_6 X15_6 ⟨rfl, N15_6q, e15_6⟩
  have N15_6 := Fr.app N15_3 N15_6q
  refine own_fw (fun _ => ox_bipush X15_6.here hx (hb hby d15_25)) ?_
  refine own_fw (fun _ => ox_icmpYes X15_6.here hx (pc0 := 27) (pc' := 43) rfl (hb hby d15_27) rfl (feq (by decide)).2 (by decide) (by decide)) ?_
  exact own_leaf X15_6 (v := none) (fun _ => rfl) (BodyLoose.notSynchronized Bd) e15_6 (⟨rfl, N15_6, (Keep.refl h0 [r0]), Ex, Fx, Fp⟩) (by decide) (by decide) (fun fs hr => X15_6.returnOut hx Bd.returns (hb hby d15_43) hr)
theorem rmSK_Z1 (l : Launch) (Z : State) (a0 : Array Value) (hw : ∀ d ∈ tables_1, d.before a0 Z = true) (ws : List Jvm.Cond) (r0 : Addr) (tx : Addr) (vb : Addr) (kb : ClassId) (cc : Int32) (fv : Value) (ra : Addr) (h0 : Heap) (n0 : Nat) (Z0 : n0 ≤ h0.size) (Ex : Exa Z h0 r0 "com/example/copperline/copperline/Lexer") (Fx : Fld Z h0 r0 "com/example/copperline/copperline/Lexer" "text" "Ljava/lang/String;" (.ref tx)) (Fp : Fld Z h0 r0 "com/example/copperline/copperline/Lexer" "position" "I" (.int (1 : Int32))) (Et : Exa Z h0 tx "java/lang/String") (Svt : Fld Z h0 tx "java/lang/String" "value" "[B" (.ref vb)) (Sct : Fld Z h0 tx "java/lang/String" "coder" "B" (.int 0)) (Vt : Arv Z h0 vb kb .byte (4 : Int32) [(.int (48 : Int32)), (.int (32 : Int32)), (.int (90 : Int32)), (.int (90 : Int32))] (.int 0)) (nx : tx ≠ r0) (nv : vb ≠ r0) (g_r0 : n0 ≤ r0) (OO : OwnOld Z n0 h0 cc fv ra) : OwnC l Z mN4 (Jvm.Cond.code mN4 prog_36_method_22_code 1 none :: ws) ({ frames := 4, cells := 0, slots := 0, locals := 53 } : Room) #[(.ref r0)] h0 (Q15 Z r0 tx (2 : Int32) h0 n0) := by
  refine own_body (plainFor_of_name pn15) (fun m => ef15 m r0) ?_
  intro p e s m below meth c s₁ Bd hZ hml hown e0 hx hby hnm X0
  have N0 := Fr.nil n0
  obtain ⟨O_0, S_c, hcc, S_f, hfv, S_r⟩ := OO
  refine own_fw (fun _ => ox_aloadN X0.here hx (hb hby d15_0) rfl rfl) ?_
  refine own_gf X0 hx hZ hown (own_w hw 101 rfl) Via.refl e0 Fp (hb hby d15_1) rfl fun T15_1 X15_1 e15_1 => ?_
  refine own_fw (fun _ => ox_aloadN X15_1.here hx (hb hby d15_4) rfl rfl) ?_
  refine own_gf X15_1 hx hZ hown (own_w hw 99 rfl) Via.refl e15_1 Fx (hb hby d15_5) rfl fun T15_2 X15_2 e15_2 => ?_
  refine own_vc X15_2 hx hZ hown (rmLN_Z l Z a0 hw [] tx vb kb cc fv ra h0 n0 Z0 Et Svt Sct Vt ⟨O_0, S_c, hcc, S_f, hfv, S_r⟩) (own_w hw 114 rfl) (own_w hw 115 rfl) (own_w hw 117 rfl) (own_w hw 116 rfl) (own_w hw 118 rfl) (own_w hw 19 rfl) (by decide) hml rfl Et e15_2 (hb hby d15_8) rfl rfl (lenOf pd15_0 rfl) (W := 1) rfl (by decide) (by decide) (c' := 0) (s' := 0) rfl rfl (by decide) (by decide) ?_
  rintro _ T15_3 L15_3 X15_3 ⟨rfl, N15_3q, e15_3⟩
  have N15_3 := Fr.app N0 N15_3q
  refine own_fw (fun _ => ox_icmpNo X15_3.here hx (hb hby d15_11) rfl (tlt (by decide : ((1 : Int32) < (4 : Int32)))).2.1) ?_
  refine own_fw (fun _ => ox_aloadN X15_3.here hx (hb hby d15_14) rfl rfl) ?_
  refine own_gf X15_3 hx hZ hown (own_w hw 99 rfl) Via.refl e15_3 Fx (hb hby d15_15) rfl fun T15_4 X15_4 e15_4 => ?_
  refine own_fw (fun _ => ox_aloadN X15_4.here hx (hb hby d15_18) rfl rfl) ?_
  refine own_gf X15_4 hx hZ hown (own_w hw 101 rfl) Via.refl e15_4 Fp (hb hby d15_19) rfl fun T15_5 X15_5 e15_5 => ?_
  refine own_vc X15_5 hx hZ hown (rmCA_Z1 l Z a0 hw [] tx vb kb cc fv ra h0 n0 Z0 Et Svt Sct Vt ⟨O_0, S_c, hcc, S_f, hfv, S_r⟩) (own_w hw 124 rfl) (own_w hw 125 rfl) (own_w hw 127 rfl) (own_w hw 126 rfl) (own_w hw 128 rfl) (own_w hw 19 rfl) (by decide) hml rfl Et e15_5 (hb hby d15_22) rfl rfl (lenOf pd15_1 rfl) (W := 0) rfl (by decide) (by decide) (c' := 0) (s' := 0) rfl rfl (by decide) (by decide) ?_
  rintro _ T15_6 L15_6 X15_6 ⟨rfl, N15_6q, e15_6⟩
  have N15_6 := Fr.app N15_3 N15_6q
  refine own_fw (fun _ => ox_bipush X15_6.here hx (hb hby d15_25)) ?_
  refine own_fw (fun _ => ox_icmpNo X15_6.here hx (hb hby d15_27) rfl (teq (rfl : (32 : Int32) = (32 : Int32))).2) ?_
  refine own_fw (fun _ => ox_aloadN X15_6.here hx (hb hby d15_30) rfl rfl) ?_
  refine own_fw (fun _ => ox_dup X15_6.here hx (hb hby d15_31) rfl rfl) ?_
  refine own_gf X15_6 hx hZ hown (own_w hw 101 rfl) Via.refl e15_6 Fp (hb hby d15_32) rfl fun T15_7 X15_7 e15_7 => ?_
  refine own_fw (fun _ => ox_iconst X15_7.here hx (hb hby d15_35)) ?_
  refine own_fw (fun _ => ox_iadd X15_7.here hx (hb hby d15_36) rfl) ?_
  obtain ⟨T15_8, h15_8, X15_8, e15_8, W15_8, st15_8⟩ := putF X15_7 hx hZ hown (host := "") (Or.inl (own_w hw 101 rfl)) Via.refl e15_7 Fp Ex (Or.inl (own_w hw 102 rfl)) (own_w hw 88 rfl) (ty := .int) (by decide) rfl rfl (g := (mkF m 37 #[.val (.ref r0)] [(.int (2 : Int32)), (.ref r0)])) rfl rfl (hb hby d15_37)
  have Fw15_8 := Fp.same W15_8
  have N15_8 := Fr.snoc X15_8 N15_6 g_r0
  refine own_fw (A := T15_8.setTop (mkF m 40 #[.val (.ref r0)] [])) st15_8 ?_
  refine own_fw (fun _ => ox_goto X15_8.here hx (pc0 := 40) (pc' := 0) rfl (hb hby d15_40) (by decide) (by decide)) ?_
  refine own_fw (fun _ => ox_aloadN X15_8.here hx (hb hby d15_0) rfl rfl) ?_
  refine own_gf X15_8 hx hZ hown (own_w hw 101 rfl) Via.refl e15_8 Fw15_8 (hb hby d15_1) rfl fun T15_9 X15_9 e15_9 => ?_
  refine own_fw (fun _ => ox_aloadN X15_9.here hx (hb hby d15_4) rfl rfl) ?_
  refine own_gf X15_9 hx hZ hown (own_w hw 99 rfl) Via.refl e15_9 (Fx.other W15_8 (Or.inr (slot_ne (Or.inr (own_w hw 100 rfl)) (Or.inl (own_w hw 102 rfl)) (by decide) (t := (.object "java/lang/String")) (t' := .int) (by decide) (by decide)))) (hb hby d15_5) rfl fun T15_10 X15_10 e15_10 => ?_
  refine own_vc X15_10 hx hZ hown (rmLN_Z l Z a0 hw [] tx vb kb cc fv ra h15_8 n0 (Nat.le_trans Z0 (Keep.of_wr W15_8).1) (Et.wr W15_8) (Svt.other W15_8 (Or.inl nx)) (Sct.other W15_8 (Or.inl nx)) (Vt.other W15_8 nv) ⟨(O_0.wr W15_8 g_r0), S_c, hcc, S_f, hfv, S_r⟩) (own_w hw 114 rfl) (own_w hw 115 rfl) (own_w hw 117 rfl) (own_w hw 116 rfl) (own_w hw 118 rfl) (own_w hw 19 rfl) (by decide) hml rfl (Et.wr W15_8) e15_10 (hb hby d15_8) rfl rfl (lenOf pd15_0 rfl) (W := 1) rfl (by decide) (by decide) (c' := 0) (s' := 0) rfl rfl (by decide) (by decide) ?_
  rintro _ T15_11 L15_11 X15_11 ⟨rfl, N15_11q, e15_11⟩
  have N15_11 := Fr.app N15_8 N15_11q
  refine own_fw (fun _ => ox_icmpNo X15_11.here hx (hb hby d15_11) rfl (tlt (by decide : ((2 : Int32) < (4 : Int32)))).2.1) ?_
  refine own_fw (fun _ => ox_aloadN X15_11.here hx (hb hby d15_14) rfl rfl) ?_
  refine own_gf X15_11 hx hZ hown (own_w hw 99 rfl) Via.refl e15_11 (Fx.other W15_8 (Or.inr (slot_ne (Or.inr (own_w hw 100 rfl)) (Or.inl (own_w hw 102 rfl)) (by decide) (t := (.object "java/lang/String")) (t' := .int) (by decide) (by decide)))) (hb hby d15_15) rfl fun T15_12 X15_12 e15_12 => ?_
  refine own_fw (fun _ => ox_aloadN X15_12.here hx (hb hby d15_18) rfl rfl) ?_
  refine own_gf X15_12 hx hZ hown (own_w hw 101 rfl) Via.refl e15_12 Fw15_8 (hb hby d15_19) rfl fun T15_13 X15_13 e15_13 => ?_
  refine own_vc X15_13 hx hZ hown (rmCA_Z2 l Z a0 hw [] tx vb kb cc fv ra h15_8 n0 (Nat.le_trans Z0 (Keep.of_wr W15_8).1) (Et.wr W15_8) (Svt.other W15_8 (Or.inl nx)) (Sct.other W15_8 (Or.inl nx)) (Vt.other W15_8 nv) ⟨(O_0.wr W15_8 g_r0), S_c, hcc, S_f, hfv, S_r⟩) (own_w hw 124 rfl) (own_w hw 125 rfl) (own_w hw 127 rfl) (own_w hw 126 rfl) (own_w hw 128 rfl) (own_w hw 19 rfl) (by decide) hml rfl (Et.wr W15_8) e15_13 (hb hby d15_22) rfl rfl (lenOf pd15_1 rfl) (W := 0) rfl (by decide) (by decide) (c' := 0) (s' := 0) rfl rfl (by decide) (by decide) ?_
  rintro _ T15_14 L15_14 X15_14 ⟨rfl, N15_14q, e15_14⟩
  have N15_14 := Fr.app N15_11 N15_14q
  refine own_fw (fun _ => ox_bipush X15_14.here hx (hb hby d15_25)) ?_
  refine own_fw (fun _ => ox_icmpYes X15_14.here hx (pc0 := 27) (pc' := 43) rfl (hb hby d15_27) rfl (feq (by decide)).2 (by decide) (by decide)) ?_
  exact own_leaf X15_14 (v := none) (fun _ => rfl) (BodyLoose.notSynchronized Bd) e15_14 (⟨rfl, N15_14, ((Keep.refl h0 [r0]).wr W15_8 (Or.inl (List.mem_of_getElem? (i := 0) rfl))), (Ex.wr W15_8), (Fx.other W15_8 (Or.inr (slot_ne (Or.inr (own_w hw 100 rfl)) (Or.inl (own_w hw 102 rfl)) (by decide) (t := (.object "java/lang/String")) (t' := .int) (by decide) (by decide)))), Fw15_8⟩) (by decide) (by decide) (fun fs hr => X15_14.returnOut hx Bd.returns (hb hby d15_43) hr)
theorem rmNU_Z (l : Launch) (Z : State) (a0 : Array Value) (hw : ∀ d ∈ tables_1, d.before a0 Z = true) (ws : List Jvm.Cond) (r0 : Addr) (tx : Addr) (vb : Addr) (kb : ClassId) (cc : Int32) (fv : Value) (ra : Addr) (h0 : Heap) (n0 : Nat) (Z0 : n0 ≤ h0.size) (Ex : Exa Z h0 r0 "com/example/copperline/copperline/Lexer") (Fx : Fld Z h0 r0 "com/example/copperline/copperline/Lexer" "text" "Ljava/lang/String;" (.ref tx)) (Fp : Fld Z h0 r0 "com/example/copperline/copperline/Lexer" "position" "I" (.int (0 : Int32))) (Et : Exa Z h0 tx "java/lang/String") (Svt : Fld Z h0 tx "java/lang/String" "value" "[B" (.ref vb)) (Sct : Fld Z h0 tx "java/lang/String" "coder" "B" (.int 0)) (Vt : Arv Z h0 vb kb .byte (4 : Int32) [(.int (48 : Int32)), (.int (32 : Int32)), (.int (90 : Int32)), (.int (90 : Int32))] (.int 0)) (nx : tx ≠ r0) (nv : vb ≠ r0) (g_r0 : n0 ≤ r0) (OO : OwnOld Z n0 h0 cc fv ra) : OwnC l Z mN18 (Jvm.Cond.code mN18 prog_36_method_15_code 4 (some .int) :: ws) ({ frames := 6, cells := 0, slots := 0, locals := 80 } : Room) #[(.ref r0)] h0 (Q14 Z r0 tx (0 : Int32) (1 : Int32) h0 n0) := by
  refine own_body (plainFor_of_name pn14) (fun m => ef14 m r0) ?_
  intro p e s m below meth c s₁ Bd hZ hml hown e0 hx hby hnm X0
  have N0 := Fr.nil n0
  obtain ⟨O_0, S_c, hcc, S_f, hfv, S_r⟩ := OO
  refine own_fw (fun _ => ox_aloadN X0.here hx (hb hby d14_0) rfl rfl) ?_
  refine own_pc X0 hx hZ hown (rmSK_Z0 l Z a0 hw [] r0 tx vb kb cc fv ra h0 n0 Z0 Ex Fx Fp Et Svt Sct Vt nx nv g_r0 ⟨O_0, S_c, hcc, S_f, hfv, S_r⟩) (own_w hw 110 rfl) (own_w hw 112 rfl) (own_selP (y := mN4) (own_w hw 88 rfl) (own_w hw 112 rfl) (own_w hw 111 rfl) (by decide)) (own_w hw 111 rfl) (own_w hw 113 rfl) (own_w hw 89 rfl) (by decide) hml rfl Ex e0 (hb hby d14_1) rfl rfl (lenOf pd14_0 rfl) (W := 0) rfl (by decide) (by decide) (c' := 0) (s' := 0) rfl rfl (by decide) (by decide) ?_
  rintro _ T14_1 L14_1 X14_1 ⟨rfl, N14_1q, K14_1, Ex14_1, Fx14_1, Fp14_1⟩
  have N14_1 := Fr.app N0 N14_1q
  refine own_fw (fun _ => ox_aloadN X14_1.here hx (hb hby d14_4) rfl rfl) ?_
  refine own_fw (fun _ => ox_aloadN X14_1.here hx (hb hby d14_5) rfl rfl) ?_
  refine own_gf X14_1 hx hZ hown (own_w hw 101 rfl) Via.refl rfl Fp14_1 (hb hby d14_6) rfl fun T14_2 X14_2 e14_2 => ?_
  refine own_pc X14_2 hx hZ hown (rmDF_Z l Z a0 hw [] r0 tx vb kb (0 : Int32) cc fv ra T14_1.heap n0 (Nat.le_trans Z0 K14_1.1) Ex14_1 Fx14_1 Fp14_1 (Et.keep K14_1) (Svt.keep K14_1 (fun q => nx (List.mem_singleton.mp q))) (Sct.keep K14_1 (fun q => nx (List.mem_singleton.mp q))) (Vt.keep K14_1 (fun q => nv (List.mem_singleton.mp q))) ⟨(O_0.keep K14_1 (allS g_r0 all0)), S_c, hcc, S_f, hfv, S_r⟩) (own_w hw 146 rfl) (own_w hw 148 rfl) (own_selP (y := mN9) (own_w hw 88 rfl) (own_w hw 148 rfl) (own_w hw 147 rfl) (by decide)) (own_w hw 147 rfl) (own_w hw 149 rfl) (own_w hw 89 rfl) (by decide) hml rfl Ex14_1 e14_2 (hb hby d14_9) rfl rfl (lenOf pd14_1 rfl) (W := 0) rfl (by decide) (by decide) (c' := 0) (s' := 0) rfl rfl (by decide) (by decide) ?_
  rintro _ T14_3 L14_3 X14_3 ⟨rfl, N14_3q, e14_3⟩
  have N14_3 := Fr.app N14_1 N14_3q
  refine own_fw (fun _ => ox_istoreN X14_3.here hx (hb hby d14_12) rfl (l' := #[.val (.ref r0), .val (.int (1 : Int32)), .unset, .unset]) rfl) ?_
  refine own_fw (fun _ => ox_iloadN X14_3.here hx (hb hby d14_13) rfl) ?_
  refine own_fw (fun _ => ox_aloadN X14_3.here hx (hb hby d14_14) rfl rfl) ?_
  refine own_gf X14_3 hx hZ hown (own_w hw 101 rfl) Via.refl e14_3 Fp14_1 (hb hby d14_15) rfl fun T14_4 X14_4 e14_4 => ?_
  refine own_fw (fun _ => ox_icmpNo X14_4.here hx (hb hby d14_18) rfl (tlt (by decide : ((0 : Int32) < (1 : Int32)))).2.2.2) ?_
  refine own_fw (fun _ => ox_iconst X14_4.here hx (hb hby d14_21)) ?_
  refine own_fw (fun _ => ox_goto X14_4.here hx (pc0 := 22) (pc' := 26) rfl (hb hby d14_22) (by decide) (by decide)) ?_
  refine own_fw (fun _ => ox_istoreN X14_4.here hx (hb hby d14_26) rfl (l' := #[.val (.ref r0), .val (.int (1 : Int32)), .val (.int (0 : Int32)), .unset]) rfl) ?_
  refine own_fw (fun _ => ox_aloadN X14_4.here hx (hb hby d14_27) rfl rfl) ?_
  refine own_gf X14_4 hx hZ hown (own_w hw 101 rfl) Via.refl e14_4 Fp14_1 (hb hby d14_28) rfl fun T14_5 X14_5 e14_5 => ?_
  refine own_fw (fun _ => ox_istoreN X14_5.here hx (hb hby d14_31) rfl (l' := #[.val (.ref r0), .val (.int (1 : Int32)), .val (.int (0 : Int32)), .val (.int (0 : Int32))]) rfl) ?_
  refine own_fw (fun _ => ox_iloadN X14_5.here hx (hb hby d14_32) rfl) ?_
  refine own_fw (fun _ => ox_iloadN X14_5.here hx (hb hby d14_33) rfl) ?_
  refine own_fw (fun _ => ox_icmpNo X14_5.here hx (hb hby d14_34) rfl (tlt (by decide : ((0 : Int32) < (1 : Int32)))).2.1) ?_
  refine own_fw (fun _ => ox_iloadN X14_5.here hx (hb hby d14_37) rfl) ?_
  refine own_fw (fun _ => ox_ifNo X14_5.here hx (hb hby d14_38) rfl ((if0 _ _).trans (flt (Int32.lt_irrefl : ¬ ((0 : Int32) < (0 : Int32)))).1)) ?_
  refine own_fw (fun _ => ox_iloadN X14_5.here hx (hb hby d14_41) rfl) ?_
  refine own_fw (fun _ => ox_bipush X14_5.here hx (hb hby d14_42)) ?_
  refine own_fw (fun _ => ox_imul X14_5.here hx (hb hby d14_44) rfl) ?_
  refine own_fw (fun _ => ox_aloadN X14_5.here hx (hb hby d14_45) rfl rfl) ?_
  refine own_gf X14_5 hx hZ hown (own_w hw 99 rfl) Via.refl e14_5 Fx14_1 (hb hby d14_46) rfl fun T14_6 X14_6 e14_6 => ?_
  refine own_fw (fun _ => ox_iloadN X14_6.here hx (hb hby d14_49) rfl) ?_
  refine own_vc X14_6 hx hZ hown (rmCA_Z0 l Z a0 hw [] tx vb kb cc fv ra T14_1.heap n0 (Nat.le_trans Z0 K14_1.1) (Et.keep K14_1) (Svt.keep K14_1 (fun q => nx (List.mem_singleton.mp q))) (Sct.keep K14_1 (fun q => nx (List.mem_singleton.mp q))) (Vt.keep K14_1 (fun q => nv (List.mem_singleton.mp q))) ⟨(O_0.keep K14_1 (allS g_r0 all0)), S_c, hcc, S_f, hfv, S_r⟩) (own_w hw 124 rfl) (own_w hw 125 rfl) (own_w hw 127 rfl) (own_w hw 126 rfl) (own_w hw 128 rfl) (own_w hw 19 rfl) (by decide) hml rfl (Et.keep K14_1) e14_6 (hb hby d14_50) rfl rfl (lenOf pd14_2 rfl) (W := 1) rfl (by decide) (by decide) (c' := 0) (s' := 0) rfl rfl (by decide) (by decide) ?_
  rintro _ T14_7 L14_7 X14_7 ⟨rfl, N14_7q, e14_7⟩
  have N14_7 := Fr.app N14_3 N14_7q
  refine own_fw (fun _ => ox_bipush X14_7.here hx (hb hby d14_53)) ?_
  refine own_fw (fun _ => ox_isub X14_7.here hx (hb hby d14_55) rfl) ?_
  refine own_fw (fun _ => ox_iadd X14_7.here hx (hb hby d14_56) rfl) ?_
  refine own_fw (fun _ => ox_istoreN X14_7.here hx (hb hby d14_57) rfl (l' := #[.val (.ref r0), .val (.int (1 : Int32)), .val (.int (0 : Int32)), .val (.int (0 : Int32))]) rfl) ?_
  refine own_fw (fun _ => ox_iloadN X14_7.here hx (hb hby d14_58) rfl) ?_
  refine own_fw (A := T14_7.setTop (mkF m 61 #[.val (.ref r0), .val (.int (1 : Int32)), .val (.int (0 : Int32)), .val (.int (0 : Int32))] [(.int (65529 : Int32)), (.int (0 : Int32))])) (fun t k => X14_7.ldcInt hx hown (mvT hZ (own_w hw 157 rfl)) (g := (mkF m 59 #[.val (.ref r0), .val (.int (1 : Int32)), .val (.int (0 : Int32)), .val (.int (0 : Int32))] [(.int (0 : Int32))])) rfl (hb hby d14_59) _ k) ?_
  refine own_fw (fun _ => ox_icmpYes X14_7.here hx (pc0 := 61) (pc' := 66) rfl (hb hby d14_61) rfl (flt (by decide : ¬ ((65529 : Int32) < (0 : Int32)))).2.2.2 (by decide) (by decide)) ?_
  refine own_fw (fun _ => ox_iinc X14_7.here hx (hb hby d14_66) rfl (l' := #[.val (.ref r0), .val (.int (1 : Int32)), .val (.int (0 : Int32)), .val (.int (1 : Int32))]) rfl) ?_
  refine own_fw (fun _ => ox_goto X14_7.here hx (pc0 := 69) (pc' := 32) rfl (hb hby d14_69) (by decide) (by decide)) ?_
  refine own_fw (fun _ => ox_iloadN X14_7.here hx (hb hby d14_32) rfl) ?_
  refine own_fw (fun _ => ox_iloadN X14_7.here hx (hb hby d14_33) rfl) ?_
  refine own_fw (fun _ => ox_icmpYes X14_7.here hx (pc0 := 34) (pc' := 72) rfl (hb hby d14_34) rfl (flt (Int32.lt_irrefl : ¬ ((1 : Int32) < (1 : Int32)))).2.1 (by decide) (by decide)) ?_
  refine own_fw (fun _ => ox_iloadN X14_7.here hx (hb hby d14_72) rfl) ?_
  refine own_fw (fun _ => ox_ifNo X14_7.here hx (hb hby d14_73) rfl ((if0 _ _).trans (flt (Int32.lt_irrefl : ¬ ((0 : Int32) < (0 : Int32)))).1)) ?_
  refine own_fw (fun _ => ox_aloadN X14_7.here hx (hb hby d14_76) rfl rfl) ?_
  refine own_fw (fun _ => ox_iloadN X14_7.here hx (hb hby d14_77) rfl) ?_
  obtain ⟨T14_8, h14_8, X14_8, e14_8, W14_8, st14_8⟩ := putF X14_7 hx hZ hown (host := "") (Or.inl (own_w hw 101 rfl)) Via.refl e14_7 Fp14_1 Ex14_1 (Or.inl (own_w hw 102 rfl)) (own_w hw 88 rfl) (ty := .int) (by decide) rfl rfl (g := (mkF m 78 #[.val (.ref r0), .val (.int (1 : Int32)), .val (.int (0 : Int32)), .val (.int (1 : Int32))] [(.int (1 : Int32)), (.ref r0)])) rfl rfl (hb hby d14_78)
  have Fw14_8 := Fp14_1.same W14_8
  have N14_8 := Fr.snoc X14_8 N14_7 g_r0
  refine own_fw (A := T14_8.setTop (mkF m 81 #[.val (.ref r0), .val (.int (1 : Int32)), .val (.int (0 : Int32)), .val (.int (1 : Int32))] [])) st14_8 ?_
  refine own_fw (fun _ => ox_iloadN X14_8.here hx (hb hby d14_81) rfl) ?_
  exact own_leaf X14_8 (v := some (.int (0 : Int32))) (own_ret Bd.returns) (BodyLoose.notSynchronized Bd) e14_8 (⟨rfl, N14_8, (((Keep.refl h0 [r0]).trans K14_1 (allS (Or.inl (List.mem_of_getElem? (i := 0) rfl)) all0)).wr W14_8 (Or.inl (List.mem_of_getElem? (i := 0) rfl))), (Ex14_1.wr W14_8), (Fx14_1.other W14_8 (Or.inr (slot_ne (Or.inr (own_w hw 100 rfl)) (Or.inl (own_w hw 102 rfl)) (by decide) (t := (.object "java/lang/String")) (t' := .int) (by decide) (by decide)))), Fw14_8⟩) (by decide) (by decide) (fun fs hr => retI X14_8 hx Bd.returns (hb hby d14_82) hr)
theorem d34_0 : decode jdk_65_method_131_code 0 = .ok (.iload_n 1, 1) := by decide +kernel
theorem d34_1 : decode jdk_65_method_131_code 1 = .ok (.iload_n 0, 1) := by decide +kernel
theorem d34_2 : decode jdk_65_method_131_code 2 = .ok (.if_icmp .ge 35, 3) := by decide +kernel
theorem d34_37 : decode jdk_65_method_131_code 37 = .ok (.return_, 1) := by decide +kernel
theorem pn34 : plainName "java/util/Arrays" = true := by first | (simp [plainName, overriddenIn]; done) | decide +kernel
theorem ef34 (m : MethodId) (p0 : Int32) (p1 : Int32) : entryFrame m #[(.int p0), (.int p1)] 2 = mkF m 0 #[.val (.int p0), .val (.int p1)] [] := by first | (simp [entryFrame, mkF, argsToLocals, Value.category]; done) | rfl
def Q34 (Z : State)  (h0 : Heap) (n0 : Nat) (w : Option Value) (h : Heap) (L : List Loc) : Prop := w = none ∧ Fr n0 L ∧ h = h0
theorem rm34 (l : Launch) (Z : State) (a0 : Array Value) (hw : ∀ d ∈ tables_1, d.before a0 Z = true) (ws : List Jvm.Cond) (p0 : Int32) (p1 : Int32) (h0 : Heap) (n0 : Nat) (Z0 : n0 ≤ h0.size) (i0 : ¬ p1 < p0) : OwnC l Z (⟨"java/util/Arrays", "checkLength", "(II)V"⟩ : MethodName) (Jvm.Cond.code (⟨"java/util/Arrays", "checkLength", "(II)V"⟩ : MethodName) jdk_65_method_131_code 2 none :: ws) ({ frames := 0, cells := 0, slots := 0, locals := 0 } : Room) #[(.int p0), (.int p1)] h0 (Q34 Z  h0 n0) := by
  refine own_body (plainFor_of_name pn34) (fun m => ef34 m p0 p1) ?_
  intro p e s m below meth c s₁ Bd hZ hml hown e0 hx hby hnm X0
  have N0 := Fr.nil n0
  refine own_fw (fun _ => ox_iloadN X0.here hx (hb hby d34_0) rfl) ?_
  refine own_fw (fun _ => ox_iloadN X0.here hx (hb hby d34_1) rfl) ?_
  refine own_fw (fun _ => ox_icmpYes X0.here hx (pc0 := 2) (pc' := 37) rfl (hb hby d34_2) rfl (flt i0).2.1 (by decide) (by decide)) ?_
  exact own_leaf X0 (v := none) (fun _ => rfl) (BodyLoose.notSynchronized Bd) e0 (⟨rfl, N0, rfl⟩) (by decide) (by decide) (fun fs hr => X0.returnOut hx Bd.returns (hb hby d34_37) hr)
theorem d35_0 : decode jdk_29_method_69_code 0 = .ok (.iload_n 0, 1) := by decide +kernel
theorem d35_1 : decode jdk_29_method_69_code 1 = .ok (.iload_n 1, 1) := by decide +kernel
theorem d35_2 : decode jdk_29_method_69_code 2 = .ok (.if_icmp .gt 7, 3) := by decide +kernel
theorem d35_5 : decode jdk_29_method_69_code 5 = .ok (.iload_n 0, 1) := by decide +kernel
theorem d35_6 : decode jdk_29_method_69_code 6 = .ok (.goto 4, 3) := by decide +kernel
theorem d35_10 : decode jdk_29_method_69_code 10 = .ok (.ireturn, 1) := by decide +kernel
theorem ef35 (m : MethodId) (p0 : Int32) (p1 : Int32) : entryFrame m #[(.int p0), (.int p1)] 2 = mkF m 0 #[.val (.int p0), .val (.int p1)] [] := by first | (simp [entryFrame, mkF, argsToLocals, Value.category]; done) | rfl
def Q35 (Z : State) (z : Int32) (h0 : Heap) (n0 : Nat) (w : Option Value) (h : Heap) (L : List Loc) : Prop := w = some (.int z) ∧ Fr n0 L ∧ h = h0
theorem d33_0 : decode cB5 0 = .ok (.iload_n 1, 1) := by decide +kernel
theorem d33_1 : decode cB5 1 = .ok (.iload_n 2, 1) := by decide +kernel
theorem d33_2 : decode cB5 2 = .ok (.invokestatic 343, 3) := by decide +kernel
theorem d33_5 : decode cB5 5 = .ok (.iload_n 2, 1) := by decide +kernel
theorem d33_6 : decode cB5 6 = .ok (.iload_n 1, 1) := by decide +kernel
theorem d33_7 : decode cB5 7 = .ok (.isub, 1) := by decide +kernel
theorem d33_8 : decode cB5 8 = .ok (.istore_n 3, 1) := by decide +kernel
theorem d33_9 : decode cB5 9 = .ok (.iload_n 3, 1) := by decide +kernel
theorem d33_10 : decode cB5 10 = .ok (.newarray .byte, 2) := by decide +kernel
theorem d33_12 : decode cB5 12 = .ok (.astore 4, 2) := by decide +kernel
theorem d33_14 : decode cB5 14 = .ok (.aload_n 0, 1) := by decide +kernel
theorem d33_15 : decode cB5 15 = .ok (.iload_n 1, 1) := by decide +kernel
theorem d33_16 : decode cB5 16 = .ok (.aload 4, 2) := by decide +kernel
theorem d33_18 : decode cB5 18 = .ok (.iconst 0, 1) := by decide +kernel
theorem d33_19 : decode cB5 19 = .ok (.aload_n 0, 1) := by decide +kernel
theorem d33_20 : decode cB5 20 = .ok (.arraylength, 1) := by decide +kernel
theorem d33_21 : decode cB5 21 = .ok (.iload_n 1, 1) := by decide +kernel
theorem d33_22 : decode cB5 22 = .ok (.isub, 1) := by decide +kernel
theorem d33_23 : decode cB5 23 = .ok (.iload_n 3, 1) := by decide +kernel
theorem d33_24 : decode cB5 24 = .ok (.invokestatic 304, 3) := by decide +kernel
theorem d33_27 : decode cB5 27 = .ok (.invokestatic 150, 3) := by decide +kernel
theorem d33_30 : decode cB5 30 = .ok (.aload 4, 2) := by decide +kernel
theorem d33_32 : decode cB5 32 = .ok (.areturn, 1) := by decide +kernel
theorem pn33 : plainName "java/util/Arrays" = true := by first | (simp [plainName, overriddenIn]; done) | decide +kernel
theorem pd33_0 : parseMethodDescriptor "(II)V" = some ⟨[.int, .int], none⟩ := by decide +kernel
theorem pd33_1 : parseMethodDescriptor "(II)I" = some ⟨[.int, .int], some .int⟩ := by decide +kernel
theorem ef33 (m : MethodId) (r0 : Addr) (p1 : Int32) (p2 : Int32) : entryFrame m #[(.ref r0), (.int p1), (.int p2)] 5 = mkF m 0 #[.val (.ref r0), .val (.int p1), .val (.int p2), .unset, .unset] [] := by first | (simp [entryFrame, mkF, argsToLocals, Value.category]; done) | rfl
def Q33 (Z : State) (n : Int32) (vs : List Value) (h0 : Heap) (n0 : Nat) (w : Option Value) (h : Heap) (L : List Loc) : Prop := ∃ b k, w = some (.ref b) ∧ Fr n0 L ∧ Keep h0 h [] ∧ Arv Z h b k .byte n vs (.int 0) ∧ h0.size ≤ b
theorem d32_0 : decode jdk_65_method_132_code 0 = .ok (.iload_n 1, 1) := by decide +kernel
theorem d32_1 : decode jdk_65_method_132_code 1 = .ok (.ifCond .ne 9, 3) := by decide +kernel
theorem d32_10 : decode jdk_65_method_132_code 10 = .ok (.aload_n 0, 1) := by decide +kernel
theorem d32_11 : decode jdk_65_method_132_code 11 = .ok (.iload_n 1, 1) := by decide +kernel
theorem d32_12 : decode jdk_65_method_132_code 12 = .ok (.iload_n 2, 1) := by decide +kernel
theorem d32_13 : decode jdk_65_method_132_code 13 = .ok (.invokestatic 339, 3) := by decide +kernel
theorem d32_16 : decode jdk_65_method_132_code 16 = .ok (.areturn, 1) := by decide +kernel
theorem pn32 : plainName "java/util/Arrays" = true := by first | (simp [plainName, overriddenIn]; done) | decide +kernel
theorem pd32_0 : parseMethodDescriptor "([BII)[B" = some ⟨[(.array .byte), .int, .int], some (.array .byte)⟩ := by decide +kernel
theorem ef32 (m : MethodId) (r0 : Addr) (p1 : Int32) (p2 : Int32) : entryFrame m #[(.ref r0), (.int p1), (.int p2)] 3 = mkF m 0 #[.val (.ref r0), .val (.int p1), .val (.int p2)] [] := by first | (simp [entryFrame, mkF, argsToLocals, Value.category]; done) | rfl
def Q32 (Z : State) (n : Int32) (vs : List Value) (h0 : Heap) (n0 : Nat) (w : Option Value) (h : Heap) (L : List Loc) : Prop := ∃ b k, w = some (.ref b) ∧ Fr n0 L ∧ Keep h0 h [] ∧ Arv Z h b k .byte n vs (.int 0) ∧ h0.size ≤ b
theorem d36_0 : decode cB22 0 = .ok (.aload_n 0, 1) := by decide +kernel
theorem d36_1 : decode cB22 1 = .ok (.invokespecial 1, 3) := by decide +kernel
theorem d36_4 : decode cB22 4 = .ok (.aload_n 0, 1) := by decide +kernel
theorem d36_5 : decode cB22 5 = .ok (.aload_n 1, 1) := by decide +kernel
theorem d36_6 : decode cB22 6 = .ok (.putfield 9, 3) := by decide +kernel
theorem d36_9 : decode cB22 9 = .ok (.aload_n 0, 1) := by decide +kernel
theorem d36_10 : decode cB22 10 = .ok (.iload_n 2, 1) := by decide +kernel
theorem d36_11 : decode cB22 11 = .ok (.putfield 15, 3) := by decide +kernel
theorem d36_14 : decode cB22 14 = .ok (.return_, 1) := by decide +kernel
theorem pn36 : plainName "java/lang/String" = true := by first | (simp [plainName, overriddenIn]; done) | decide +kernel
theorem ef36 (m : MethodId) (r0 : Addr) (r1 : Addr) (p2 : Int32) : entryFrame m #[(.ref r0), (.ref r1), (.int p2)] 3 = mkF m 0 #[.val (.ref r0), .val (.ref r1), .val (.int p2)] [] := by first | (simp [entryFrame, mkF, argsToLocals, Value.category]; done) | rfl
def Q36 (Z : State) (r0 r1 : Addr) (h0 : Heap) (n0 : Nat) (w : Option Value) (h : Heap) (L : List Loc) : Prop := w = none ∧ Fr n0 L ∧ Keep h0 h [r0] ∧ Exa Z h r0 "java/lang/String" ∧ Fld Z h r0 "java/lang/String" "value" "[B" (.ref r1)
theorem rm36 (l : Launch) (Z : State) (a0 : Array Value) (hw : ∀ d ∈ tables_1, d.before a0 Z = true) (ws : List Jvm.Cond) (r0 : Addr) (r1 : Addr) (h0 : Heap) (n0 : Nat) (Z0 : n0 ≤ h0.size) (E : Exa Z h0 r0 "java/lang/String") (Sv : Fld Z h0 r0 "java/lang/String" "value" "[B" .null) (Sc : Fld Z h0 r0 "java/lang/String" "coder" "B" (.int 0)) (g_r0 : n0 ≤ r0) : OwnC l Z (⟨"java/lang/String", "<init>", "([BB)V"⟩ : MethodName) (Jvm.Cond.code (⟨"java/lang/String", "<init>", "([BB)V"⟩ : MethodName) jdk_42_method_151_code 3 none :: ws) ({ frames := 1, cells := 0, slots := 0, locals := 12 } : Room) #[(.ref r0), (.ref r1), (.int (0 : Int32))] h0 (Q36 Z r0 r1 h0 n0) := by
  refine own_body (plainFor_of_name pn36) (fun m => ef36 m r0 r1 (0 : Int32)) ?_
  intro p e s m below meth c s₁ Bd hZ hml hown e0 hx hby hnm X0
  have N0 := Fr.nil n0
  refine own_fw (fun _ => ox_aloadN X0.here hx (hb hby d36_0) rfl rfl) ?_
  obtain ⟨T36_1, X36_1, e36_1, st36_1⟩ := initO X0 hx hZ hown (own_w hw 27 rfl) (own_w hw 7 rfl) (own_w hw 8 rfl) e0 (g := (mkF m 1 #[.val (.ref r0), .val (.ref r1), .val (.int (0 : Int32))] [(.ref r0)])) rfl (by rw [hml]; rfl) rfl (hb hby d36_1) (by decide) (W := 0) (own_mr rfl) (by decide)
  refine own_fw (A := T36_1.setTop (mkF m 4 #[.val (.ref r0), .val (.ref r1), .val (.int (0 : Int32))] [])) st36_1 ?_
  refine own_fw (fun _ => ox_aloadN X36_1.here hx (hb hby d36_4) rfl rfl) ?_
  refine own_fw (fun _ => ox_aloadN X36_1.here hx (hb hby d36_5) rfl rfl) ?_
  obtain ⟨T36_2, h36_2, X36_2, e36_2, W36_2, st36_2⟩ := putF X36_1 hx hZ hown (host := "") (Or.inl (own_w hw 42 rfl)) Via.refl e36_1 Sv E (Or.inr ⟨(own_w hw 43 rfl), rfl, hnm⟩) (own_w hw 18 rfl) (ty := (.array .byte)) (by decide) rfl rfl (g := (mkF m 6 #[.val (.ref r0), .val (.ref r1), .val (.int (0 : Int32))] [(.ref r1), (.ref r0)])) rfl rfl (hb hby d36_6)
  have Fw36_2 := Sv.same W36_2
  have N36_2 := Fr.snoc X36_2 N0 g_r0
  refine own_fw (A := T36_2.setTop (mkF m 9 #[.val (.ref r0), .val (.ref r1), .val (.int (0 : Int32))] [])) st36_2 ?_
  refine own_fw (fun _ => ox_aloadN X36_2.here hx (hb hby d36_9) rfl rfl) ?_
  refine own_fw (fun _ => ox_iloadN X36_2.here hx (hb hby d36_10) rfl) ?_
  obtain ⟨T36_3, h36_3, X36_3, e36_3, W36_3, st36_3⟩ := putFN X36_2 hx hZ hown (own_w hw 40 rfl) Via.refl e36_2 (Sc.other W36_2 (Or.inr (slot_ne (Or.inr (own_w hw 41 rfl)) (Or.inr (own_w hw 43 rfl)) (by decide) (t := .byte) (t' := (.array .byte)) (by decide) (by decide)))) (E.wr W36_2) (Or.inr ⟨(own_w hw 41 rfl), rfl, hnm⟩) (own_w hw 18 rfl) (ty := .byte) (v' := (.int (nar .byte (0 : Int32)))) (by decide) rfl (fits_nar_byte _) (g := (mkF m 11 #[.val (.ref r0), .val (.ref r1), .val (.int (0 : Int32))] [(.int (0 : Int32)), (.ref r0)])) rfl rfl (hb hby d36_11)
  have Fw36_3 := (Sc.other W36_2 (Or.inr (slot_ne (Or.inr (own_w hw 41 rfl)) (Or.inr (own_w hw 43 rfl)) (by decide) (t := .byte) (t' := (.array .byte)) (by decide) (by decide)))).same W36_3
  have N36_3 := Fr.snoc X36_3 N36_2 g_r0
  refine own_fw (A := T36_3.setTop (mkF m 14 #[.val (.ref r0), .val (.ref r1), .val (.int (0 : Int32))] [])) st36_3 ?_
  exact own_leaf X36_3 (v := none) (fun _ => rfl) (BodyLoose.notSynchronized Bd) e36_3 (⟨rfl, N36_3, (((Keep.refl h0 [r0]).wr W36_2 (Or.inl (List.mem_of_getElem? (i := 0) rfl))).wr W36_3 (Or.inl (List.mem_of_getElem? (i := 0) rfl))), ((E.wr W36_2).wr W36_3), (Fw36_2.other W36_3 (Or.inr (slot_ne (Or.inr (own_w hw 43 rfl)) (Or.inr (own_w hw 41 rfl)) (by decide) (t := (.array .byte)) (t' := .byte) (by decide) (by decide))))⟩) (by decide) (by decide) (fun fs hr => X36_3.returnOut hx Bd.returns (hb hby d36_14) hr)
theorem d31_0 : decode cB14 0 = .ok (.iload_n 2, 1) := by decide +kernel
theorem d31_1 : decode cB14 1 = .ok (.ifCond .ne 6, 3) := by decide +kernel
theorem d31_7 : decode cB14 7 = .ok (.new 1, 3) := by decide +kernel
theorem d31_10 : decode cB14 10 = .ok (.dup, 1) := by decide +kernel
theorem d31_11 : decode cB14 11 = .ok (.aload_n 0, 1) := by decide +kernel
theorem d31_12 : decode cB14 12 = .ok (.iload_n 1, 1) := by decide +kernel
theorem d31_13 : decode cB14 13 = .ok (.iload_n 1, 1) := by decide +kernel
theorem d31_14 : decode cB14 14 = .ok (.iload_n 2, 1) := by decide +kernel
theorem d31_15 : decode cB14 15 = .ok (.iadd, 1) := by decide +kernel
theorem d31_16 : decode cB14 16 = .ok (.invokestatic 232, 3) := by decide +kernel
theorem d31_19 : decode cB14 19 = .ok (.iconst 0, 1) := by decide +kernel
theorem d31_20 : decode cB14 20 = .ok (.invokespecial 112, 3) := by decide +kernel
theorem d31_23 : decode cB14 23 = .ok (.areturn, 1) := by decide +kernel
theorem pn31 : plainName "java/lang/StringLatin1" = true := by first | (simp [plainName, overriddenIn]; done) | decide +kernel
theorem pd31_0 : parseMethodDescriptor "([BII)[B" = some ⟨[(.array .byte), .int, .int], some (.array .byte)⟩ := by decide +kernel
theorem pd31_1 : parseMethodDescriptor "([BB)V" = some ⟨[(.array .byte), .byte], none⟩ := by decide +kernel
theorem ef31 (m : MethodId) (r0 : Addr) (p1 : Int32) (p2 : Int32) : entryFrame m #[(.ref r0), (.int p1), (.int p2)] 3 = mkF m 0 #[.val (.ref r0), .val (.int p1), .val (.int p2)] [] := by first | (simp [entryFrame, mkF, argsToLocals, Value.category]; done) | rfl
def Q31 (Z : State) (n : Int32) (vs : List Value) (h0 : Heap) (n0 : Nat) (w : Option Value) (h : Heap) (L : List Loc) : Prop := ∃ r b k, w = some (.ref r) ∧ Fr n0 L ∧ Keep h0 h [] ∧ Exa Z h r "java/lang/String" ∧ Fld Z h r "java/lang/String" "value" "[B" (.ref b) ∧ Arv Z h b k .byte n vs (.int 0) ∧ h0.size ≤ r ∧ h0.size ≤ b
theorem d28_0 : decode cB6 0 = .ok (.aload_n 0, 1) := by decide +kernel
theorem d28_1 : decode cB6 1 = .ok (.invokevirtual 505, 3) := by decide +kernel
theorem d28_4 : decode cB6 4 = .ok (.istore_n 3, 1) := by decide +kernel
theorem d28_5 : decode cB6 5 = .ok (.iload_n 1, 1) := by decide +kernel
theorem d28_6 : decode cB6 6 = .ok (.iload_n 2, 1) := by decide +kernel
theorem d28_7 : decode cB6 7 = .ok (.iload_n 3, 1) := by decide +kernel
theorem d28_8 : decode cB6 8 = .ok (.invokestatic 521, 3) := by decide +kernel
theorem d28_11 : decode cB6 11 = .ok (.iload_n 1, 1) := by decide +kernel
theorem d28_12 : decode cB6 12 = .ok (.ifCond .ne 10, 3) := by decide +kernel
theorem d28_22 : decode cB6 22 = .ok (.iload_n 2, 1) := by decide +kernel
theorem d28_23 : decode cB6 23 = .ok (.iload_n 1, 1) := by decide +kernel
theorem d28_24 : decode cB6 24 = .ok (.isub, 1) := by decide +kernel
theorem d28_25 : decode cB6 25 = .ok (.istore 4, 2) := by decide +kernel
theorem d28_27 : decode cB6 27 = .ok (.aload_n 0, 1) := by decide +kernel
theorem d28_28 : decode cB6 28 = .ok (.invokevirtual 492, 3) := by decide +kernel
theorem d28_31 : decode cB6 31 = .ok (.ifCond .eq 16, 3) := by decide +kernel
theorem d28_34 : decode cB6 34 = .ok (.aload_n 0, 1) := by decide +kernel
theorem d28_35 : decode cB6 35 = .ok (.getfield 9, 3) := by decide +kernel
theorem d28_38 : decode cB6 38 = .ok (.iload_n 1, 1) := by decide +kernel
theorem d28_39 : decode cB6 39 = .ok (.iload 4, 2) := by decide +kernel
theorem d28_41 : decode cB6 41 = .ok (.invokestatic 685, 3) := by decide +kernel
theorem d28_44 : decode cB6 44 = .ok (.goto 13, 3) := by decide +kernel
theorem d28_57 : decode cB6 57 = .ok (.areturn, 1) := by decide +kernel
theorem pn28 : plainName "java/lang/String" = true := by first | (simp [plainName, overriddenIn]; done) | decide +kernel
theorem pd28_0 : parseMethodDescriptor "()I" = some ⟨[], some .int⟩ := by decide +kernel
theorem pd28_1 : parseMethodDescriptor "(III)V" = some ⟨[.int, .int, .int], none⟩ := by decide +kernel
theorem pd28_2 : parseMethodDescriptor "()Z" = some ⟨[], some .boolean⟩ := by decide +kernel
theorem pd28_3 : parseMethodDescriptor "([BII)Ljava/lang/String;" = some ⟨[(.array .byte), .int, .int], some (.object "java/lang/String")⟩ := by decide +kernel
theorem ef28 (m : MethodId) (r0 : Addr) (p1 : Int32) (p2 : Int32) : entryFrame m #[(.ref r0), (.int p1), (.int p2)] 5 = mkF m 0 #[.val (.ref r0), .val (.int p1), .val (.int p2), .unset, .unset] [] := by first | (simp [entryFrame, mkF, argsToLocals, Value.category]; done) | rfl
def Q28 (Z : State) (n : Int32) (vs : List Value) (h0 : Heap) (n0 : Nat) (w : Option Value) (h : Heap) (L : List Loc) : Prop := ∃ r b k, w = some (.ref r) ∧ Fr n0 L ∧ Keep h0 h [] ∧ Exa Z h r "java/lang/String" ∧ Fld Z h r "java/lang/String" "value" "[B" (.ref b) ∧ Arv Z h b k .byte n vs (.int 0) ∧ h0.size ≤ r ∧ h0.size ≤ b
theorem d27_0 : decode jdk_42_method_91_code 0 = .ok (.aload_n 0, 1) := by decide +kernel
theorem d27_1 : decode jdk_42_method_91_code 1 = .ok (.iload_n 1, 1) := by decide +kernel
theorem d27_2 : decode jdk_42_method_91_code 2 = .ok (.aload_n 0, 1) := by decide +kernel
theorem d27_3 : decode jdk_42_method_91_code 3 = .ok (.invokevirtual 505, 3) := by decide +kernel
theorem d27_6 : decode jdk_42_method_91_code 6 = .ok (.invokevirtual 681, 3) := by decide +kernel
theorem d27_9 : decode jdk_42_method_91_code 9 = .ok (.areturn, 1) := by decide +kernel
theorem pn27 : plainName "java/lang/String" = true := by first | (simp [plainName, overriddenIn]; done) | decide +kernel
theorem pd27_0 : parseMethodDescriptor "()I" = some ⟨[], some .int⟩ := by decide +kernel
theorem pd27_1 : parseMethodDescriptor "(II)Ljava/lang/String;" = some ⟨[.int, .int], some (.object "java/lang/String")⟩ := by decide +kernel
theorem ef27 (m : MethodId) (r0 : Addr) (p1 : Int32) : entryFrame m #[(.ref r0), (.int p1)] 2 = mkF m 0 #[.val (.ref r0), .val (.int p1)] [] := by first | (simp [entryFrame, mkF, argsToLocals, Value.category]; done) | rfl
def Q27 (Z : State) (n : Int32) (vs : List Value) (h0 : Heap) (n0 : Nat) (w : Option Value) (h : Heap) (L : List Loc) : Prop := ∃ r b k, w = some (.ref r) ∧ Fr n0 L ∧ Keep h0 h [] ∧ Exa Z h r "java/lang/String" ∧ Fld Z h r "java/lang/String" "value" "[B" (.ref b) ∧ Arv Z h b k .byte n vs (.int 0) ∧ h0.size ≤ r ∧ h0.size ≤ b
theorem d26_0 : decode cB12 0 = .ok (.aload_n 0, 1) := by decide +kernel
theorem d26_1 : decode cB12 1 = .ok (.invokevirtual 24, 3) := by decide +kernel
theorem d26_4 : decode cB12 4 = .ok (.aload_n 0, 1) := by decide +kernel
theorem d26_5 : decode cB12 5 = .ok (.getfield 13, 3) := by decide +kernel
theorem d26_8 : decode cB12 8 = .ok (.aload_n 0, 1) := by decide +kernel
theorem d26_9 : decode cB12 9 = .ok (.getfield 17, 3) := by decide +kernel
theorem d26_12 : decode cB12 12 = .ok (.invokevirtual 60, 3) := by decide +kernel
theorem d26_15 : decode cB12 15 = .ok (.astore_n 1, 1) := by decide +kernel
theorem d26_16 : decode cB12 16 = .ok (.aload_n 0, 1) := by decide +kernel
theorem d26_17 : decode cB12 17 = .ok (.aload_n 0, 1) := by decide +kernel
theorem d26_18 : decode cB12 18 = .ok (.getfield 13, 3) := by decide +kernel
theorem d26_21 : decode cB12 21 = .ok (.invokevirtual 27, 3) := by decide +kernel
theorem d26_24 : decode cB12 24 = .ok (.putfield 17, 3) := by decide +kernel
theorem d26_27 : decode cB12 27 = .ok (.aload_n 1, 1) := by decide +kernel
theorem d26_28 : decode cB12 28 = .ok (.areturn, 1) := by decide +kernel
theorem pn26 : plainName "com/example/copperline/copperline/Lexer" = true := by first | (simp [plainName, overriddenIn]; done) | decide +kernel
theorem pd26_0 : parseMethodDescriptor "()V" = some ⟨[], none⟩ := by decide +kernel
theorem pd26_1 : parseMethodDescriptor "(I)Ljava/lang/String;" = some ⟨[.int], some (.object "java/lang/String")⟩ := by decide +kernel
theorem pd26_2 : parseMethodDescriptor "()I" = some ⟨[], some .int⟩ := by decide +kernel
theorem ef26 (m : MethodId) (r0 : Addr) : entryFrame m #[(.ref r0)] 2 = mkF m 0 #[.val (.ref r0), .unset] [] := by first | (simp [entryFrame, mkF, argsToLocals, Value.category]; done) | rfl
def Q26 (Z : State) (r0 : Addr) (n : Int32) (vs : List Value) (h0 : Heap) (n0 : Nat) (w : Option Value) (h : Heap) (L : List Loc) : Prop := ∃ r b k, w = some (.ref r) ∧ Fr n0 L ∧ Keep h0 h [r0] ∧ Exa Z h r "java/lang/String" ∧ Fld Z h r "java/lang/String" "value" "[B" (.ref b) ∧ Arv Z h b k .byte n vs (.int 0) ∧ h0.size ≤ r ∧ h0.size ≤ b
theorem rmMN_L (l : Launch) (Z : State) (a0 : Array Value) (hw : ∀ d ∈ tables_1, d.before a0 Z = true) (ws : List Jvm.Cond)  (h0 : Heap) (n0 : Nat) (Z0 : n0 ≤ h0.size) : OwnC l Z mN19 (Jvm.Cond.code mN19 jdk_29_method_69_code 2 (some .int) :: ws) ({ frames := 0, cells := 0, slots := 0, locals := 0 } : Room) #[(.int (1 : Int32)), (.int (1 : Int32))] h0 (Q35 Z (1 : Int32) h0 n0) := by
  refine own_body (Jvm.Free.JP.mathPlain rfl (by decide +kernel)) (fun m => ef35 m (1 : Int32) (1 : Int32)) ?_
  intro p e s m below meth c s₁ Bd hZ hml hown e0 hx hby hnm X0
  have N0 := Fr.nil n0
  refine own_fw (fun _ => ox_iloadN X0.here hx (hb hby d35_0) rfl) ?_
  refine own_fw (fun _ => ox_iloadN X0.here hx (hb hby d35_1) rfl) ?_
  refine own_fw (fun _ => ox_icmpNo X0.here hx (hb hby d35_2) rfl (flt (Int32.lt_irrefl : ¬ ((1 : Int32) < (1 : Int32)))).2.2.1) ?_
  refine own_fw (fun _ => ox_iloadN X0.here hx (hb hby d35_5) rfl) ?_
  refine own_fw (fun _ => ox_goto X0.here hx (pc0 := 6) (pc' := 10) rfl (hb hby d35_6) (by decide) (by decide)) ?_
  exact own_leaf X0 (v := some (.int (1 : Int32))) (own_ret Bd.returns) (BodyLoose.notSynchronized Bd) e0 (⟨rfl, N0, rfl⟩) (by decide) (by decide) (fun fs hr => retI X0 hx Bd.returns (hb hby d35_10) hr)
theorem rmRB_L (l : Launch) (Z : State) (a0 : Array Value) (hw : ∀ d ∈ tables_1, d.before a0 Z = true) (ws : List Jvm.Cond) (r0 : Addr) (kb : ClassId) (x0 : Int32) (x1 : Int32) (x2 : Int32) (x4 : Int32) (h0 : Heap) (n0 : Nat) (Z0 : n0 ≤ h0.size) (V_0 : Arv Z h0 r0 kb .byte (5 : Int32) [(.int x0), (.int x1), (.int x2), (.int (32 : Int32)), (.int x4)] (.int 0)) : OwnC l Z mN20 (Jvm.Cond.code mN20 jdk_65_method_133_code 5 (some (.array .byte)) :: ws) ({ frames := 1, cells := 1, slots := 1, locals := 18 } : Room) #[(.ref r0), (.int (4 : Int32)), (.int (5 : Int32))] h0 (Q33 Z (1 : Int32) [(.int x4)] h0 n0) := by
  refine own_body (plainFor_of_name pn33) (fun m => ef33 m r0 (4 : Int32) (5 : Int32)) ?_
  intro p e s m below meth c s₁ Bd hZ hml hown e0 hx hby hnm X0
  have N0 := Fr.nil n0
  refine own_fw (fun _ => ox_iloadN X0.here hx (hb hby d33_0) rfl) ?_
  refine own_fw (fun _ => ox_iloadN X0.here hx (hb hby d33_1) rfl) ?_
  refine own_sc X0 hx hZ hown (rm34 l Z a0 hw [] (4 : Int32) (5 : Int32) h0 n0 Z0 (by decide)) (own_w hw 191 rfl) (own_w hw 192 rfl) (own_w hw 193 rfl) (own_w hw 186 rfl) (by decide) hml rfl e0 (hb hby d33_2) rfl rfl (lenOf pd33_0 rfl) (W := 0) rfl (by decide) (by decide) (c' := 0) (s' := 0) rfl rfl (by decide) (by decide) ?_
  rintro _ T33_1 L33_1 X33_1 ⟨rfl, N33_1q, e33_1⟩
  have N33_1 := Fr.app N0 N33_1q
  refine own_fw (fun _ => ox_iloadN X33_1.here hx (hb hby d33_5) rfl) ?_
  refine own_fw (fun _ => ox_iloadN X33_1.here hx (hb hby d33_6) rfl) ?_
  refine own_fw (fun _ => ox_isub X33_1.here hx (hb hby d33_7) rfl) ?_
  refine own_fw (fun _ => ox_istoreN X33_1.here hx (hb hby d33_8) rfl (l' := #[.val (.ref r0), .val (.int (4 : Int32)), .val (.int (5 : Int32)), .val (.int (1 : Int32)), .unset]) rfl) ?_
  refine own_fw (fun _ => ox_iloadN X33_1.here hx (hb hby d33_9) rfl) ?_
  obtain ⟨T33_2, h33_2, k33_2, X33_2, e33_2, E33_2, A33_2, st33_2⟩ := newP X33_1 hx hZ (own_w hw 33 rfl) e33_1 (g := (mkF m 10 #[.val (.ref r0), .val (.int (4 : Int32)), .val (.int (5 : Int32)), .val (.int (1 : Int32)), .unset] [(.int (1 : Int32))])) rfl (hb hby d33_10) rfl (by decide) (cap := 1) (by decide) (by decide) (by decide) (by decide)
  obtain ⟨b33_2, g33_2⟩ : ∃ z, z = h0.size := ⟨_, rfl⟩
  rw [← g33_2] at A33_2 st33_2
  have g_b33_2 : n0 ≤ b33_2 := Nat.le_trans Z0 (Nat.le_of_eq g33_2.symm)
  have sz_b33_2 : h0.size ≤ b33_2 := Nat.le_trans (Keep.refl h0 []).1 (Nat.le_of_eq g33_2.symm)
  have V_b33_2 : Arv Z h33_2 b33_2 k33_2 .byte (1 : Int32) [(.int (0 : Int32))] (.int (0 : Int32)) := (Arv.new A33_2 (by decide)).pad (pad_rep [] (.int (0 : Int32)) 1)
  refine own_fw (A := T33_2.setTop (mkF m 12 #[.val (.ref r0), .val (.int (4 : Int32)), .val (.int (5 : Int32)), .val (.int (1 : Int32)), .unset] [(.ref b33_2)])) st33_2 ?_
  refine own_fw (fun _ => ox_astore X33_2.here hx (hb hby d33_12) rfl rfl (l' := #[.val (.ref r0), .val (.int (4 : Int32)), .val (.int (5 : Int32)), .val (.int (1 : Int32)), .val (.ref b33_2)]) rfl) ?_
  refine own_fw (fun _ => ox_aloadN X33_2.here hx (hb hby d33_14) rfl rfl) ?_
  refine own_fw (fun _ => ox_iloadN X33_2.here hx (hb hby d33_15) rfl) ?_
  refine own_fw (fun _ => ox_aload X33_2.here hx (hb hby d33_16) rfl rfl) ?_
  refine own_fw (fun _ => ox_iconst X33_2.here hx (hb hby d33_18)) ?_
  refine own_fw (fun _ => ox_aloadN X33_2.here hx (hb hby d33_19) rfl rfl) ?_
  obtain ⟨cl33_3, Ar33_3, q33_3, S33_3, Ng33_3, Hs33_3, G33_3⟩ := id (V_0.ext E33_2)
  have st33_3 := X33_2.arraylength hx (by rw [e33_2]; exact Ar33_3.1) (State.isArrayOf_alike hZ.alike Ar33_3.2.1) (g := (mkF m 20 #[.val (.ref r0), .val (.int (4 : Int32)), .val (.int (5 : Int32)), .val (.int (1 : Int32)), .val (.ref b33_2)] [(.ref r0), (.int (0 : Int32)), (.ref b33_2), (.int (4 : Int32)), (.ref r0)])) rfl rfl (hb hby d33_20)
  rw [len_of S33_3 Ng33_3] at st33_3
  refine own_fw (A := T33_2.setTop (mkF m 21 #[.val (.ref r0), .val (.int (4 : Int32)), .val (.int (5 : Int32)), .val (.int (1 : Int32)), .val (.ref b33_2)] [(.int (5 : Int32)), (.int (0 : Int32)), (.ref b33_2), (.int (4 : Int32)), (.ref r0)])) st33_3 ?_
  refine own_fw (fun _ => ox_iloadN X33_2.here hx (hb hby d33_21) rfl) ?_
  refine own_fw (fun _ => ox_isub X33_2.here hx (hb hby d33_22) rfl) ?_
  refine own_fw (fun _ => ox_iloadN X33_2.here hx (hb hby d33_23) rfl) ?_
  refine own_sc X33_2 hx hZ hown (rmMN_L l Z a0 hw []  h33_2 n0 (Nat.le_trans Z0 E33_2.1) ) (own_w hw 194 rfl) (own_w hw 195 rfl) (own_w hw 197 rfl) (own_w hw 196 rfl) (by decide) hml rfl e33_2 (hb hby d33_24) rfl rfl (lenOf pd33_1 rfl) (W := 4) rfl (by decide) (by decide) (c' := 1) (s' := 1) rfl rfl (by decide) (by decide) ?_
  rintro _ T33_4 L33_4 X33_4 ⟨rfl, N33_4q, e33_4⟩
  have N33_4 := Fr.app N33_1 N33_4q
  have tk33_5 : ∀ i, i < 1 → ∀ x, ([(.int x0), (.int x1), (.int x2), (.int (32 : Int32)), (.int x4)] : List Value).getD (4 + i) (.int 0) = .ref x → Sto Z h33_2 b33_2 (.ref x) := by
    intro i hi x hx
    match i, hi with
    | 0, _ => cases hx
    | (j + 1), hj => omega
  obtain ⟨T33_5, h33_5, L33_5, X33_5, e33_5, N33_5, K33_5, Va33_5, st33_5⟩ := own_ac X33_4 hx hZ hown (own_w hw 198 rfl) (own_w hw 201 rfl) (own_w hw 199 rfl) (own_w hw 200 rfl) e33_4 (o := 4) (q := 0) (n := 1) (V_0.ext E33_2) V_b33_2 (by decide) (by decide) (by decide) (by decide) (by decide) tk33_5 N33_4 g_b33_2 (g := (mkF m 27 #[.val (.ref r0), .val (.int (4 : Int32)), .val (.int (5 : Int32)), .val (.int (1 : Int32)), .val (.ref b33_2)] [(.int (1 : Int32)), (.int (0 : Int32)), (.ref b33_2), (.int (4 : Int32)), (.ref r0)])) rfl (by rw [hml]; rfl) (rest := []) rfl (hb hby d33_27) (by decide) (W := 0) (own_mr rfl) (by decide)
  have V33_5 : Arv Z h33_5 b33_2 k33_2 .byte (1 : Int32) [(.int x4)] (.int (0 : Int32)) := Va33_5
  refine own_fw (A := T33_5.setTop (mkF m 30 #[.val (.ref r0), .val (.int (4 : Int32)), .val (.int (5 : Int32)), .val (.int (1 : Int32)), .val (.ref b33_2)] [])) st33_5 ?_
  refine own_fw (fun _ => ox_aload X33_5.here hx (hb hby d33_30) rfl rfl) ?_
  exact own_leaf X33_5 (v := some (.ref b33_2)) (own_ret Bd.returns) (BodyLoose.notSynchronized Bd) e33_5 (⟨b33_2, k33_2, rfl, N33_5, (((Keep.refl h0 []).ext E33_2).trans K33_5 (allS (Or.inr sz_b33_2) all0)), V33_5, sz_b33_2⟩) (by decide) (by decide) (fun fs hr => retA (ty := (.array .byte)) X33_5 hx rfl rfl Bd.returns (hb hby d33_32) hr)
theorem rmRG_L (l : Launch) (Z : State) (a0 : Array Value) (hw : ∀ d ∈ tables_1, d.before a0 Z = true) (ws : List Jvm.Cond) (r0 : Addr) (kb : ClassId) (x0 : Int32) (x1 : Int32) (x2 : Int32) (x4 : Int32) (h0 : Heap) (n0 : Nat) (Z0 : n0 ≤ h0.size) (V_0 : Arv Z h0 r0 kb .byte (5 : Int32) [(.int x0), (.int x1), (.int x2), (.int (32 : Int32)), (.int x4)] (.int 0)) : OwnC l Z mN21 (Jvm.Cond.code mN21 jdk_65_method_132_code 3 (some (.array .byte)) :: ws) ({ frames := 2, cells := 1, slots := 1, locals := 34 } : Room) #[(.ref r0), (.int (4 : Int32)), (.int (5 : Int32))] h0 (Q32 Z (1 : Int32) [(.int x4)] h0 n0) := by
  refine own_body (plainFor_of_name pn32) (fun m => ef32 m r0 (4 : Int32) (5 : Int32)) ?_
  intro p e s m below meth c s₁ Bd hZ hml hown e0 hx hby hnm X0
  have N0 := Fr.nil n0
  refine own_fw (fun _ => ox_iloadN X0.here hx (hb hby d32_0) rfl) ?_
  refine own_fw (fun _ => ox_ifYes X0.here hx (pc0 := 1) (pc' := 10) rfl (hb hby d32_1) rfl ((if0 _ _).trans (feq (by decide : ¬ ((4 : Int32) = (0 : Int32)))).2) (by decide) (by decide)) ?_
  refine own_fw (fun _ => ox_aloadN X0.here hx (hb hby d32_10) rfl rfl) ?_
  refine own_fw (fun _ => ox_iloadN X0.here hx (hb hby d32_11) rfl) ?_
  refine own_fw (fun _ => ox_iloadN X0.here hx (hb hby d32_12) rfl) ?_
  refine own_sc X0 hx hZ hown (rmRB_L l Z a0 hw [] r0 kb x0 x1 x2 x4 h0 n0 Z0 V_0) (own_w hw 188 rfl) (own_w hw 189 rfl) (own_w hw 190 rfl) (own_w hw 186 rfl) (by decide) hml rfl e0 (hb hby d32_13) rfl rfl (lenOf pd32_0 rfl) (W := 0) rfl (by decide) (by decide) (c' := 1) (s' := 1) rfl rfl (by decide) (by decide) ?_
  rintro _ T32_1 L32_1 X32_1 ⟨bc32_1, kb32_1, rfl, N32_1q, K32_1, Vb32_1, zb32_1⟩
  have N32_1 := Fr.app N0 N32_1q
  have sz_bc32_1 : h0.size ≤ bc32_1 := Nat.le_trans (Keep.refl h0 []).1 zb32_1
  exact own_leaf X32_1 (v := some (.ref bc32_1)) (own_ret Bd.returns) (BodyLoose.notSynchronized Bd) rfl (⟨bc32_1, kb32_1, rfl, N32_1, ((Keep.refl h0 []).trans K32_1 all0), Vb32_1, sz_bc32_1⟩) (by decide) (by decide) (fun fs hr => retA (ty := (.array .byte)) X32_1 hx rfl rfl Bd.returns (hb hby d32_16) hr)
theorem rmNS_L (l : Launch) (Z : State) (a0 : Array Value) (hw : ∀ d ∈ tables_1, d.before a0 Z = true) (ws : List Jvm.Cond) (r0 : Addr) (kb : ClassId) (x0 : Int32) (x1 : Int32) (x2 : Int32) (x4 : Int32) (h0 : Heap) (n0 : Nat) (Z0 : n0 ≤ h0.size) (V_0 : Arv Z h0 r0 kb .byte (5 : Int32) [(.int x0), (.int x1), (.int x2), (.int (32 : Int32)), (.int x4)] (.int 0)) : OwnC l Z mN22 (Jvm.Cond.code mN22 jdk_43_method_47_code 3 (some (.object "java/lang/String")) :: ws) ({ frames := 3, cells := 2, slots := 5, locals := 50 } : Room) #[(.ref r0), (.int (4 : Int32)), (.int (1 : Int32))] h0 (Q31 Z (1 : Int32) [(.int x4)] h0 n0) := by
  refine own_body (plainFor_of_name pn31) (fun m => ef31 m r0 (4 : Int32) (1 : Int32)) ?_
  intro p e s m below meth c s₁ Bd hZ hml hown e0 hx hby hnm X0
  have N0 := Fr.nil n0
  refine own_fw (fun _ => ox_iloadN X0.here hx (hb hby d31_0) rfl) ?_
  refine own_fw (fun _ => ox_ifYes X0.here hx (pc0 := 1) (pc' := 7) rfl (hb hby d31_1) rfl ((if0 _ _).trans (feq (by decide : ¬ ((1 : Int32) = (0 : Int32)))).2) (by decide) (by decide)) ?_
  obtain ⟨T31_1, h31_1, X31_1, e31_1, E31_1, A31_1, D31_1, -, st31_1⟩ := newO X0 hx hZ hown (own_w hw 183 rfl) (own_w hw 18 rfl) (own_w hw 19 rfl) e0 (g := (mkF m 7 #[.val (.ref r0), .val (.int (4 : Int32)), .val (.int (1 : Int32))] [])) rfl (hb hby d31_7) (by decide) (by decide)
  obtain ⟨b31_1, g31_1⟩ : ∃ z, z = h0.size := ⟨_, rfl⟩
  rw [← g31_1] at A31_1 D31_1 st31_1
  have g_b31_1 : n0 ≤ b31_1 := Nat.le_trans Z0 (Nat.le_of_eq g31_1.symm)
  have sz_b31_1 : h0.size ≤ b31_1 := Nat.le_trans (Keep.refl h0 []).1 (Nat.le_of_eq g31_1.symm)
  have F_coder_b31_1 : Fld Z h31_1 b31_1 "java/lang/String" "coder" "B" (.int (0 : Int32)) := D31_1 (Or.inr (own_w hw 41 rfl)) (ty := .byte) (by decide)
  have F_value_b31_1 : Fld Z h31_1 b31_1 "java/lang/String" "value" "[B" .null := D31_1 (Or.inr (own_w hw 43 rfl)) (ty := (.array .byte)) (by decide)
  refine own_fw (A := T31_1.setTop (mkF m 10 #[.val (.ref r0), .val (.int (4 : Int32)), .val (.int (1 : Int32))] [(.ref b31_1)])) st31_1 ?_
  refine own_fw (fun _ => ox_dup X31_1.here hx (hb hby d31_10) rfl rfl) ?_
  refine own_fw (fun _ => ox_aloadN X31_1.here hx (hb hby d31_11) rfl rfl) ?_
  refine own_fw (fun _ => ox_iloadN X31_1.here hx (hb hby d31_12) rfl) ?_
  refine own_fw (fun _ => ox_iloadN X31_1.here hx (hb hby d31_13) rfl) ?_
  refine own_fw (fun _ => ox_iloadN X31_1.here hx (hb hby d31_14) rfl) ?_
  refine own_fw (fun _ => ox_iadd X31_1.here hx (hb hby d31_15) rfl) ?_
  refine own_sc X31_1 hx hZ hown (rmRG_L l Z a0 hw [] r0 kb x0 x1 x2 x4 h31_1 n0 (Nat.le_trans Z0 E31_1.1) (V_0.ext E31_1)) (own_w hw 184 rfl) (own_w hw 185 rfl) (own_w hw 187 rfl) (own_w hw 186 rfl) (by decide) hml rfl e31_1 (hb hby d31_16) rfl rfl (lenOf pd31_0 rfl) (W := 2) rfl (by decide) (by decide) (c' := 2) (s' := 5) rfl rfl (by decide) (by decide) ?_
  rintro _ T31_2 L31_2 X31_2 ⟨bc31_2, kb31_2, rfl, N31_2q, K31_2, Vb31_2, zb31_2⟩
  have N31_2 := Fr.app N0 N31_2q
  have ne_b31_1_bc31_2 : b31_1 ≠ bc31_2 := Nat.ne_of_lt (Nat.lt_of_lt_of_le F_coder_b31_1.lt zb31_2)
  have sz_bc31_2 : h0.size ≤ bc31_2 := Nat.le_trans ((Keep.refl h0 []).ext E31_1).1 zb31_2
  refine own_fw (fun _ => ox_iconst X31_2.here hx (hb hby d31_19)) ?_
  refine own_ic X31_2 hx hZ hown (rm36 l Z a0 hw [] b31_1 bc31_2 T31_2.heap n0 (Nat.le_trans (Nat.le_trans Z0 E31_1.1) K31_2.1) (A31_1.keep K31_2) (F_value_b31_1.keep K31_2 (fun q => nomatch q)) (F_coder_b31_1.keep K31_2 (fun q => nomatch q)) g_b31_1) (own_w hw 202 rfl) (own_w hw 203 rfl) (own_w hw 204 rfl) (own_w hw 19 rfl) rfl (by decide) hml rfl rfl (hb hby d31_20) rfl rfl (lenOf pd31_1 rfl) (W := 1) rfl (by decide) (by decide) (c' := 2) (s' := 5) rfl rfl (by decide) (by decide) ?_
  rintro _ T31_3 L31_3 X31_3 ⟨rfl, N31_3q, K31_3, E31_3, Sv31_3⟩
  have N31_3 := Fr.app N31_2 N31_3q
  exact own_leaf X31_3 (v := some (.ref b31_1)) (own_ret Bd.returns) (BodyLoose.notSynchronized Bd) rfl (⟨b31_1, bc31_2, kb31_2, rfl, N31_3, ((((Keep.refl h0 []).ext E31_1).trans K31_2 all0).trans K31_3 (allS (Or.inr sz_b31_1) all0)), E31_3, Sv31_3, (Vb31_2.keep K31_3 (fun q => (Ne.symm ne_b31_1_bc31_2) (List.mem_singleton.mp q))), sz_b31_1, sz_bc31_2⟩) (by decide) (by decide) (fun fs hr => retA (ty := (.object "java/lang/String")) X31_3 hx rfl rfl Bd.returns (hb hby d31_23) hr)
theorem rmS2_L (l : Launch) (Z : State) (a0 : Array Value) (hw : ∀ d ∈ tables_1, d.before a0 Z = true) (ws : List Jvm.Cond) (r0 : Addr) (vb : Addr) (kb : ClassId) (x0 : Int32) (x1 : Int32) (x2 : Int32) (x4 : Int32) (cc : Int32) (fv : Value) (ra : Addr) (h0 : Heap) (n0 : Nat) (Z0 : n0 ≤ h0.size) (Et : Exa Z h0 r0 "java/lang/String") (Svt : Fld Z h0 r0 "java/lang/String" "value" "[B" (.ref vb)) (Sct : Fld Z h0 r0 "java/lang/String" "coder" "B" (.int 0)) (Vt : Arv Z h0 vb kb .byte (5 : Int32) [(.int x0), (.int x1), (.int x2), (.int (32 : Int32)), (.int x4)] (.int 0)) (d0 : own_dig x0) (d1 : own_dig x1) (d2 : own_dig x2) (l4 : own_let x4) (OO : OwnOld Z n0 h0 cc fv ra) : OwnC l Z mN23 (Jvm.Cond.code mN23 jdk_42_method_92_code 5 (some (.object "java/lang/String")) :: ws) ({ frames := 4, cells := 2, slots := 5, locals := 64 } : Room) #[(.ref r0), (.int (4 : Int32)), (.int (5 : Int32))] h0 (Q28 Z (1 : Int32) [(.int x4)] h0 n0) := by
  refine own_body (plainFor_of_name pn28) (fun m => ef28 m r0 (4 : Int32) (5 : Int32)) ?_
  intro p e s m below meth c s₁ Bd hZ hml hown e0 hx hby hnm X0
  have N0 := Fr.nil n0
  obtain ⟨O_0, S_c, hcc, S_f, hfv, S_r⟩ := OO
  refine own_fw (fun _ => ox_aloadN X0.here hx (hb hby d28_0) rfl rfl) ?_
  refine own_vc X0 hx hZ hown (rmLN_L l Z a0 hw [] r0 vb kb x0 x1 x2 x4 cc fv ra h0 n0 Z0 Et Svt Sct Vt d0 d1 d2 l4 ⟨O_0, S_c, hcc, S_f, hfv, S_r⟩) (own_w hw 168 rfl) (own_w hw 115 rfl) (own_w hw 117 rfl) (own_w hw 116 rfl) (own_w hw 118 rfl) (own_w hw 19 rfl) (by decide) hml rfl Et e0 (hb hby d28_1) rfl rfl (lenOf pd28_0 rfl) (W := 0) rfl (by decide) (by decide) (c' := 0) (s' := 0) rfl rfl (by decide) (by decide) ?_
  rintro _ T28_1 L28_1 X28_1 ⟨rfl, N28_1q, e28_1⟩
  have N28_1 := Fr.app N0 N28_1q
  refine own_fw (fun _ => ox_istoreN X28_1.here hx (hb hby d28_4) rfl (l' := #[.val (.ref r0), .val (.int (4 : Int32)), .val (.int (5 : Int32)), .val (.int (5 : Int32)), .unset]) rfl) ?_
  refine own_fw (fun _ => ox_iloadN X28_1.here hx (hb hby d28_5) rfl) ?_
  refine own_fw (fun _ => ox_iloadN X28_1.here hx (hb hby d28_6) rfl) ?_
  refine own_fw (fun _ => ox_iloadN X28_1.here hx (hb hby d28_7) rfl) ?_
  refine own_sc X28_1 hx hZ hown (rm29 l Z a0 hw [] (4 : Int32) (5 : Int32) (5 : Int32) cc fv ra h0 n0 Z0 (by decide) (by decide) (by decide) ⟨O_0, S_c, hcc, S_f, hfv, S_r⟩) (own_w hw 174 rfl) (own_w hw 175 rfl) (own_w hw 176 rfl) (own_w hw 19 rfl) (by decide) hml rfl e28_1 (hb hby d28_8) rfl rfl (lenOf pd28_1 rfl) (W := 0) rfl (by decide) (by decide) (c' := 0) (s' := 0) rfl rfl (by decide) (by decide) ?_
  rintro _ T28_2 L28_2 X28_2 ⟨rfl, N28_2q, e28_2⟩
  have N28_2 := Fr.app N28_1 N28_2q
  refine own_fw (fun _ => ox_iloadN X28_2.here hx (hb hby d28_11) rfl) ?_
  refine own_fw (fun _ => ox_ifYes X28_2.here hx (pc0 := 12) (pc' := 22) rfl (hb hby d28_12) rfl ((if0 _ _).trans (feq (by decide : ¬ ((4 : Int32) = (0 : Int32)))).2) (by decide) (by decide)) ?_
  refine own_fw (fun _ => ox_iloadN X28_2.here hx (hb hby d28_22) rfl) ?_
  refine own_fw (fun _ => ox_iloadN X28_2.here hx (hb hby d28_23) rfl) ?_
  refine own_fw (fun _ => ox_isub X28_2.here hx (hb hby d28_24) rfl) ?_
  refine own_fw (fun _ => ox_istore X28_2.here hx (hb hby d28_25) rfl (l' := #[.val (.ref r0), .val (.int (4 : Int32)), .val (.int (5 : Int32)), .val (.int (5 : Int32)), .val (.int (1 : Int32))]) rfl) ?_
  refine own_fw (fun _ => ox_aloadN X28_2.here hx (hb hby d28_27) rfl rfl) ?_
  refine own_vc X28_2 hx hZ hown (rm19 l Z a0 hw [] r0 cc fv ra h0 n0 Z0 Sct ⟨O_0, S_c, hcc, S_f, hfv, S_r⟩) (own_w hw 129 rfl) (own_w hw 130 rfl) (own_w hw 132 rfl) (own_w hw 131 rfl) (own_w hw 133 rfl) (own_w hw 19 rfl) (by decide) hml rfl Et e28_2 (hb hby d28_28) rfl rfl (lenOf pd28_2 rfl) (W := 0) rfl (by decide) (by decide) (c' := 0) (s' := 0) rfl rfl (by decide) (by decide) ?_
  rintro _ T28_3 L28_3 X28_3 ⟨rfl, N28_3q, e28_3⟩
  have N28_3 := Fr.app N28_2 N28_3q
  refine own_fw (fun _ => ox_ifNo X28_3.here hx (hb hby d28_31) rfl ((if0 _ _).trans (feq (by decide : ¬ ((1 : Int32) = (0 : Int32)))).1)) ?_
  refine own_fw (fun _ => ox_aloadN X28_3.here hx (hb hby d28_34) rfl rfl) ?_
  refine own_gf X28_3 hx hZ hown (own_w hw 42 rfl) Via.refl e28_3 Svt (hb hby d28_35) rfl fun T28_4 X28_4 e28_4 => ?_
  refine own_fw (fun _ => ox_iloadN X28_4.here hx (hb hby d28_38) rfl) ?_
  refine own_fw (fun _ => ox_iload X28_4.here hx (hb hby d28_39) rfl) ?_
  refine own_sc X28_4 hx hZ hown (rmNS_L l Z a0 hw [] vb kb x0 x1 x2 x4 h0 n0 Z0 Vt) (own_w hw 180 rfl) (own_w hw 181 rfl) (own_w hw 182 rfl) (own_w hw 136 rfl) (by decide) hml rfl e28_4 (hb hby d28_41) rfl rfl (lenOf pd28_3 rfl) (W := 0) rfl (by decide) (by decide) (c' := 2) (s' := 5) rfl rfl (by decide) (by decide) ?_
  rintro _ T28_5 L28_5 X28_5 ⟨rs28_5, bs28_5, kb28_5, rfl, N28_5q, K28_5, E28_5, Sv28_5, Vb28_5, zr28_5, zb28_5⟩
  have N28_5 := Fr.app N28_3 N28_5q
  have sz_rs28_5 : h0.size ≤ rs28_5 := Nat.le_trans (Keep.refl h0 []).1 zr28_5
  have sz_bs28_5 : h0.size ≤ bs28_5 := Nat.le_trans (Keep.refl h0 []).1 zb28_5
  refine own_fw (fun _ => ox_goto X28_5.here hx (pc0 := 44) (pc' := 57) rfl (hb hby d28_44) (by decide) (by decide)) ?_
  exact own_leaf X28_5 (v := some (.ref rs28_5)) (own_ret Bd.returns) (BodyLoose.notSynchronized Bd) rfl (⟨rs28_5, bs28_5, kb28_5, rfl, N28_5, ((Keep.refl h0 []).trans K28_5 all0), E28_5, Sv28_5, Vb28_5, sz_rs28_5, sz_bs28_5⟩) (by decide) (by decide) (fun fs hr => retA (ty := (.object "java/lang/String")) X28_5 hx rfl rfl Bd.returns (hb hby d28_57) hr)
theorem rmS0_L (l : Launch) (Z : State) (a0 : Array Value) (hw : ∀ d ∈ tables_1, d.before a0 Z = true) (ws : List Jvm.Cond) (r0 : Addr) (vb : Addr) (kb : ClassId) (x0 : Int32) (x1 : Int32) (x2 : Int32) (x4 : Int32) (cc : Int32) (fv : Value) (ra : Addr) (h0 : Heap) (n0 : Nat) (Z0 : n0 ≤ h0.size) (Et : Exa Z h0 r0 "java/lang/String") (Svt : Fld Z h0 r0 "java/lang/String" "value" "[B" (.ref vb)) (Sct : Fld Z h0 r0 "java/lang/String" "coder" "B" (.int 0)) (Vt : Arv Z h0 vb kb .byte (5 : Int32) [(.int x0), (.int x1), (.int x2), (.int (32 : Int32)), (.int x4)] (.int 0)) (d0 : own_dig x0) (d1 : own_dig x1) (d2 : own_dig x2) (l4 : own_let x4) (OO : OwnOld Z n0 h0 cc fv ra) : OwnC l Z mN24 (Jvm.Cond.code mN24 jdk_42_method_91_code 2 (some (.object "java/lang/String")) :: ws) ({ frames := 5, cells := 2, slots := 5, locals := 80 } : Room) #[(.ref r0), (.int (4 : Int32))] h0 (Q27 Z (1 : Int32) [(.int x4)] h0 n0) := by
  refine own_body (plainFor_of_name pn27) (fun m => ef27 m r0 (4 : Int32)) ?_
  intro p e s m below meth c s₁ Bd hZ hml hown e0 hx hby hnm X0
  have N0 := Fr.nil n0
  obtain ⟨O_0, S_c, hcc, S_f, hfv, S_r⟩ := OO
  refine own_fw (fun _ => ox_aloadN X0.here hx (hb hby d27_0) rfl rfl) ?_
  refine own_fw (fun _ => ox_iloadN X0.here hx (hb hby d27_1) rfl) ?_
  refine own_fw (fun _ => ox_aloadN X0.here hx (hb hby d27_2) rfl rfl) ?_
  refine own_vc X0 hx hZ hown (rmLN_L l Z a0 hw [] r0 vb kb x0 x1 x2 x4 cc fv ra h0 n0 Z0 Et Svt Sct Vt d0 d1 d2 l4 ⟨O_0, S_c, hcc, S_f, hfv, S_r⟩) (own_w hw 168 rfl) (own_w hw 115 rfl) (own_w hw 117 rfl) (own_w hw 116 rfl) (own_w hw 118 rfl) (own_w hw 19 rfl) (by decide) hml rfl Et e0 (hb hby d27_3) rfl rfl (lenOf pd27_0 rfl) (W := 2) rfl (by decide) (by decide) (c' := 0) (s' := 0) rfl rfl (by decide) (by decide) ?_
  rintro _ T27_1 L27_1 X27_1 ⟨rfl, N27_1q, e27_1⟩
  have N27_1 := Fr.app N0 N27_1q
  refine own_vc X27_1 hx hZ hown (rmS2_L l Z a0 hw [] r0 vb kb x0 x1 x2 x4 cc fv ra h0 n0 Z0 Et Svt Sct Vt d0 d1 d2 l4 ⟨O_0, S_c, hcc, S_f, hfv, S_r⟩) (own_w hw 169 rfl) (own_w hw 170 rfl) (own_w hw 172 rfl) (own_w hw 171 rfl) (own_w hw 173 rfl) (own_w hw 19 rfl) (by decide) hml rfl Et e27_1 (hb hby d27_6) rfl rfl (lenOf pd27_1 rfl) (W := 0) rfl (by decide) (by decide) (c' := 2) (s' := 5) rfl rfl (by decide) (by decide) ?_
  rintro _ T27_2 L27_2 X27_2 ⟨rs27_2, bs27_2, kb27_2, rfl, N27_2q, K27_2, E27_2, Sv27_2, Vb27_2, zr27_2, zb27_2⟩
  have N27_2 := Fr.app N27_1 N27_2q
  have sz_rs27_2 : h0.size ≤ rs27_2 := Nat.le_trans (Keep.refl h0 []).1 zr27_2
  have sz_bs27_2 : h0.size ≤ bs27_2 := Nat.le_trans (Keep.refl h0 []).1 zb27_2
  exact own_leaf X27_2 (v := some (.ref rs27_2)) (own_ret Bd.returns) (BodyLoose.notSynchronized Bd) rfl (⟨rs27_2, bs27_2, kb27_2, rfl, N27_2, ((Keep.refl h0 []).trans K27_2 all0), E27_2, Sv27_2, Vb27_2, sz_rs27_2, sz_bs27_2⟩) (by decide) (by decide) (fun fs hr => retA (ty := (.object "java/lang/String")) X27_2 hx rfl rfl Bd.returns (hb hby d27_9) hr)
theorem rmRE_L (l : Launch) (Z : State) (a0 : Array Value) (hw : ∀ d ∈ tables_1, d.before a0 Z = true) (ws : List Jvm.Cond) (r0 : Addr) (tx : Addr) (vb : Addr) (kb : ClassId) (x0 : Int32) (x1 : Int32) (x2 : Int32) (x4 : Int32) (cc : Int32) (fv : Value) (ra : Addr) (h0 : Heap) (n0 : Nat) (Z0 : n0 ≤ h0.size) (Ex : Exa Z h0 r0 "com/example/copperline/copperline/Lexer") (Fx : Fld Z h0 r0 "com/example/copperline/copperline/Lexer" "text" "Ljava/lang/String;" (.ref tx)) (Fp : Fld Z h0 r0 "com/example/copperline/copperline/Lexer" "position" "I" (.int (3 : Int32))) (Et : Exa Z h0 tx "java/lang/String") (Svt : Fld Z h0 tx "java/lang/String" "value" "[B" (.ref vb)) (Sct : Fld Z h0 tx "java/lang/String" "coder" "B" (.int 0)) (Vt : Arv Z h0 vb kb .byte (5 : Int32) [(.int x0), (.int x1), (.int x2), (.int (32 : Int32)), (.int x4)] (.int 0)) (d0 : own_dig x0) (d1 : own_dig x1) (d2 : own_dig x2) (l4 : own_let x4) (nx : tx ≠ r0) (nv : vb ≠ r0) (g_r0 : n0 ≤ r0) (OO : OwnOld Z n0 h0 cc fv ra) : OwnC l Z mN25 (Jvm.Cond.code mN25 prog_36_method_8_code 2 (some (.object "java/lang/String")) :: ws) ({ frames := 6, cells := 2, slots := 5, locals := 93 } : Room) #[(.ref r0)] h0 (Q26 Z r0 (1 : Int32) [(.int x4)] h0 n0) := by
  refine own_body (plainFor_of_name pn26) (fun m => ef26 m r0) ?_
  intro p e s m below meth c s₁ Bd hZ hml hown e0 hx hby hnm X0
  have N0 := Fr.nil n0
  obtain ⟨O_0, S_c, hcc, S_f, hfv, S_r⟩ := OO
  refine own_fw (fun _ => ox_aloadN X0.here hx (hb hby d26_0) rfl rfl) ?_
  refine own_pc X0 hx hZ hown (rmSK_L3 l Z a0 hw [] r0 tx vb kb x0 x1 x2 x4 cc fv ra h0 n0 Z0 Ex Fx Fp Et Svt Sct Vt d0 d1 d2 l4 nx nv g_r0 ⟨O_0, S_c, hcc, S_f, hfv, S_r⟩) (own_w hw 110 rfl) (own_w hw 112 rfl) (own_selP (y := mN4) (own_w hw 88 rfl) (own_w hw 112 rfl) (own_w hw 111 rfl) (by decide)) (own_w hw 111 rfl) (own_w hw 113 rfl) (own_w hw 89 rfl) (by decide) hml rfl Ex e0 (hb hby d26_1) rfl rfl (lenOf pd26_0 rfl) (W := 0) rfl (by decide) (by decide) (c' := 0) (s' := 0) rfl rfl (by decide) (by decide) ?_
  rintro _ T26_1 L26_1 X26_1 ⟨rfl, N26_1q, K26_1, Ex26_1, Fx26_1, Fp26_1⟩
  have N26_1 := Fr.app N0 N26_1q
  refine own_fw (fun _ => ox_aloadN X26_1.here hx (hb hby d26_4) rfl rfl) ?_
  refine own_gf X26_1 hx hZ hown (own_w hw 99 rfl) Via.refl rfl Fx26_1 (hb hby d26_5) rfl fun T26_2 X26_2 e26_2 => ?_
  refine own_fw (fun _ => ox_aloadN X26_2.here hx (hb hby d26_8) rfl rfl) ?_
  refine own_gf X26_2 hx hZ hown (own_w hw 101 rfl) Via.refl e26_2 Fp26_1 (hb hby d26_9) rfl fun T26_3 X26_3 e26_3 => ?_
  refine own_vc X26_3 hx hZ hown (rmS0_L l Z a0 hw [] tx vb kb x0 x1 x2 x4 cc fv ra T26_1.heap n0 (Nat.le_trans Z0 K26_1.1) (Et.keep K26_1) (Svt.keep K26_1 (fun q => nx (List.mem_singleton.mp q))) (Sct.keep K26_1 (fun q => nx (List.mem_singleton.mp q))) (Vt.keep K26_1 (fun q => nv (List.mem_singleton.mp q))) d0 d1 d2 l4 ⟨(O_0.keep K26_1 (allS g_r0 all0)), S_c, hcc, S_f, hfv, S_r⟩) (own_w hw 163 rfl) (own_w hw 164 rfl) (own_w hw 166 rfl) (own_w hw 165 rfl) (own_w hw 167 rfl) (own_w hw 19 rfl) (by decide) hml rfl (Et.keep K26_1) e26_3 (hb hby d26_12) rfl rfl (lenOf pd26_1 rfl) (W := 0) rfl (by decide) (by decide) (c' := 2) (s' := 5) rfl rfl (by decide) (by decide) ?_
  rintro _ T26_4 L26_4 X26_4 ⟨rs26_4, bs26_4, kb26_4, rfl, N26_4q, K26_4, E26_4, Sv26_4, Vb26_4, zr26_4, zb26_4⟩
  have N26_4 := Fr.app N26_1 N26_4q
  have ne_r0_rs26_4 : r0 ≠ rs26_4 := Nat.ne_of_lt (Nat.lt_of_lt_of_le Ex26_1.lt zr26_4)
  have sz_rs26_4 : h0.size ≤ rs26_4 := Nat.le_trans ((Keep.refl h0 [r0]).trans K26_1 (allS (Or.inl (List.mem_of_getElem? (i := 0) rfl)) all0)).1 zr26_4
  have ne_r0_bs26_4 : r0 ≠ bs26_4 := Nat.ne_of_lt (Nat.lt_of_lt_of_le Ex26_1.lt zb26_4)
  have sz_bs26_4 : h0.size ≤ bs26_4 := Nat.le_trans ((Keep.refl h0 [r0]).trans K26_1 (allS (Or.inl (List.mem_of_getElem? (i := 0) rfl)) all0)).1 zb26_4
  refine own_fw (fun _ => ox_astoreN X26_4.here hx (hb hby d26_15) rfl rfl (l' := #[.val (.ref r0), .val (.ref rs26_4)]) rfl) ?_
  refine own_fw (fun _ => ox_aloadN X26_4.here hx (hb hby d26_16) rfl rfl) ?_
  refine own_fw (fun _ => ox_aloadN X26_4.here hx (hb hby d26_17) rfl rfl) ?_
  refine own_gf X26_4 hx hZ hown (own_w hw 99 rfl) Via.refl rfl (Fx26_1.keep K26_4 (fun q => nomatch q)) (hb hby d26_18) rfl fun T26_5 X26_5 e26_5 => ?_
  refine own_vc X26_5 hx hZ hown (rmLN_L l Z a0 hw [] tx vb kb x0 x1 x2 x4 cc fv ra T26_4.heap n0 (Nat.le_trans (Nat.le_trans Z0 K26_1.1) K26_4.1) ((Et.keep K26_1).keep K26_4) ((Svt.keep K26_1 (fun q => nx (List.mem_singleton.mp q))).keep K26_4 (fun q => nomatch q)) ((Sct.keep K26_1 (fun q => nx (List.mem_singleton.mp q))).keep K26_4 (fun q => nomatch q)) ((Vt.keep K26_1 (fun q => nv (List.mem_singleton.mp q))).keep K26_4 (fun q => nomatch q)) d0 d1 d2 l4 ⟨((O_0.keep K26_1 (allS g_r0 all0)).keep K26_4 all0), S_c, hcc, S_f, hfv, S_r⟩) (own_w hw 114 rfl) (own_w hw 115 rfl) (own_w hw 117 rfl) (own_w hw 116 rfl) (own_w hw 118 rfl) (own_w hw 19 rfl) (by decide) hml rfl ((Et.keep K26_1).keep K26_4) e26_5 (hb hby d26_21) rfl rfl (lenOf pd26_2 rfl) (W := 1) rfl (by decide) (by decide) (c' := 2) (s' := 5) rfl rfl (by decide) (by decide) ?_
  rintro _ T26_6 L26_6 X26_6 ⟨rfl, N26_6q, e26_6⟩
  have N26_6 := Fr.app N26_4 N26_6q
  obtain ⟨T26_7, h26_7, X26_7, e26_7, W26_7, st26_7⟩ := putF X26_6 hx hZ hown (host := "") (Or.inl (own_w hw 101 rfl)) Via.refl e26_6 (Fp26_1.keep K26_4 (fun q => nomatch q)) (Ex26_1.keep K26_4) (Or.inl (own_w hw 102 rfl)) (own_w hw 88 rfl) (ty := .int) (by decide) rfl rfl (g := (mkF m 24 #[.val (.ref r0), .val (.ref rs26_4)] [(.int (5 : Int32)), (.ref r0)])) rfl rfl (hb hby d26_24)
  have Fw26_7 := (Fp26_1.keep K26_4 (fun q => nomatch q)).same W26_7
  have N26_7 := Fr.snoc X26_7 N26_6 g_r0
  refine own_fw (A := T26_7.setTop (mkF m 27 #[.val (.ref r0), .val (.ref rs26_4)] [])) st26_7 ?_
  refine own_fw (fun _ => ox_aloadN X26_7.here hx (hb hby d26_27) rfl rfl) ?_
  exact own_leaf X26_7 (v := some (.ref rs26_4)) (own_ret Bd.returns) (BodyLoose.notSynchronized Bd) e26_7 (⟨rs26_4, bs26_4, kb26_4, rfl, N26_7, ((((Keep.refl h0 [r0]).trans K26_1 (allS (Or.inl (List.mem_of_getElem? (i := 0) rfl)) all0)).trans K26_4 all0).wr W26_7 (Or.inl (List.mem_of_getElem? (i := 0) rfl))), (E26_4.wr W26_7), (Sv26_4.other W26_7 (Or.inl (Ne.symm ne_r0_rs26_4))), (Vb26_4.other W26_7 (Ne.symm ne_r0_bs26_4)), sz_rs26_4, sz_bs26_4⟩) (by decide) (by decide) (fun fs hr => retA (ty := (.object "java/lang/String")) X26_7 hx rfl rfl Bd.returns (hb hby d26_28) hr)
theorem rmMN_Z (l : Launch) (Z : State) (a0 : Array Value) (hw : ∀ d ∈ tables_1, d.before a0 Z = true) (ws : List Jvm.Cond)  (h0 : Heap) (n0 : Nat) (Z0 : n0 ≤ h0.size) : OwnC l Z mN19 (Jvm.Cond.code mN19 jdk_29_method_69_code 2 (some .int) :: ws) ({ frames := 0, cells := 0, slots := 0, locals := 0 } : Room) #[(.int (2 : Int32)), (.int (2 : Int32))] h0 (Q35 Z (2 : Int32) h0 n0) := by
  refine own_body (Jvm.Free.JP.mathPlain rfl (by decide +kernel)) (fun m => ef35 m (2 : Int32) (2 : Int32)) ?_
  intro p e s m below meth c s₁ Bd hZ hml hown e0 hx hby hnm X0
  have N0 := Fr.nil n0
  refine own_fw (fun _ => ox_iloadN X0.here hx (hb hby d35_0) rfl) ?_
  refine own_fw (fun _ => ox_iloadN X0.here hx (hb hby d35_1) rfl) ?_
  refine own_fw (fun _ => ox_icmpNo X0.here hx (hb hby d35_2) rfl (flt (Int32.lt_irrefl : ¬ ((2 : Int32) < (2 : Int32)))).2.2.1) ?_
  refine own_fw (fun _ => ox_iloadN X0.here hx (hb hby d35_5) rfl) ?_
  refine own_fw (fun _ => ox_goto X0.here hx (pc0 := 6) (pc' := 10) rfl (hb hby d35_6) (by decide) (by decide)) ?_
  exact own_leaf X0 (v := some (.int (2 : Int32))) (own_ret Bd.returns) (BodyLoose.notSynchronized Bd) e0 (⟨rfl, N0, rfl⟩) (by decide) (by decide) (fun fs hr => retI X0 hx Bd.returns (hb hby d35_10) hr)
theorem rmRB_Z (l : Launch) (Z : State) (a0 : Array Value) (hw : ∀ d ∈ tables_1, d.before a0 Z = true) (ws : List Jvm.Cond) (r0 : Addr) (kb : ClassId) (h0 : Heap) (n0 : Nat) (Z0 : n0 ≤ h0.size) (V_0 : Arv Z h0 r0 kb .byte (4 : Int32) [(.int (48 : Int32)), (.int (32 : Int32)), (.int (90 : Int32)), (.int (90 : Int32))] (.int 0)) : OwnC l Z mN20 (Jvm.Cond.code mN20 jdk_65_method_133_code 5 (some (.array .byte)) :: ws) ({ frames := 1, cells := 1, slots := 2, locals := 18 } : Room) #[(.ref r0), (.int (2 : Int32)), (.int (4 : Int32))] h0 (Q33 Z (2 : Int32) [(.int (90 : Int32)), (.int (90 : Int32))] h0 n0) := by
  refine own_body (plainFor_of_name pn33) (fun m => ef33 m r0 (2 : Int32) (4 : Int32)) ?_
  intro p e s m below meth c s₁ Bd hZ hml hown e0 hx hby hnm X0
  have N0 := Fr.nil n0
  refine own_fw (fun _ => ox_iloadN X0.here hx (hb hby d33_0) rfl) ?_
  refine own_fw (fun _ => ox_iloadN X0.here hx (hb hby d33_1) rfl) ?_
  refine own_sc X0 hx hZ hown (rm34 l Z a0 hw [] (2 : Int32) (4 : Int32) h0 n0 Z0 (by decide)) (own_w hw 191 rfl) (own_w hw 192 rfl) (own_w hw 193 rfl) (own_w hw 186 rfl) (by decide) hml rfl e0 (hb hby d33_2) rfl rfl (lenOf pd33_0 rfl) (W := 0) rfl (by decide) (by decide) (c' := 0) (s' := 0) rfl rfl (by decide) (by decide) ?_
  rintro _ T33_1 L33_1 X33_1 ⟨rfl, N33_1q, e33_1⟩
  have N33_1 := Fr.app N0 N33_1q
  refine own_fw (fun _ => ox_iloadN X33_1.here hx (hb hby d33_5) rfl) ?_
  refine own_fw (fun _ => ox_iloadN X33_1.here hx (hb hby d33_6) rfl) ?_
  refine own_fw (fun _ => ox_isub X33_1.here hx (hb hby d33_7) rfl) ?_
  refine own_fw (fun _ => ox_istoreN X33_1.here hx (hb hby d33_8) rfl (l' := #[.val (.ref r0), .val (.int (2 : Int32)), .val (.int (4 : Int32)), .val (.int (2 : Int32)), .unset]) rfl) ?_
  refine own_fw (fun _ => ox_iloadN X33_1.here hx (hb hby d33_9) rfl) ?_
  obtain ⟨T33_2, h33_2, k33_2, X33_2, e33_2, E33_2, A33_2, st33_2⟩ := newP X33_1 hx hZ (own_w hw 33 rfl) e33_1 (g := (mkF m 10 #[.val (.ref r0), .val (.int (2 : Int32)), .val (.int (4 : Int32)), .val (.int (2 : Int32)), .unset] [(.int (2 : Int32))])) rfl (hb hby d33_10) rfl (by decide) (cap := 2) (by decide) (by decide) (by decide) (by decide)
  obtain ⟨b33_2, g33_2⟩ : ∃ z, z = h0.size := ⟨_, rfl⟩
  rw [← g33_2] at A33_2 st33_2
  have g_b33_2 : n0 ≤ b33_2 := Nat.le_trans Z0 (Nat.le_of_eq g33_2.symm)
  have sz_b33_2 : h0.size ≤ b33_2 := Nat.le_trans (Keep.refl h0 []).1 (Nat.le_of_eq g33_2.symm)
  have V_b33_2 : Arv Z h33_2 b33_2 k33_2 .byte (2 : Int32) [(.int (0 : Int32)), (.int (0 : Int32))] (.int (0 : Int32)) := (Arv.new A33_2 (by decide)).pad (pad_rep [] (.int (0 : Int32)) 2)
  refine own_fw (A := T33_2.setTop (mkF m 12 #[.val (.ref r0), .val (.int (2 : Int32)), .val (.int (4 : Int32)), .val (.int (2 : Int32)), .unset] [(.ref b33_2)])) st33_2 ?_
  refine own_fw (fun _ => ox_astore X33_2.here hx (hb hby d33_12) rfl rfl (l' := #[.val (.ref r0), .val (.int (2 : Int32)), .val (.int (4 : Int32)), .val (.int (2 : Int32)), .val (.ref b33_2)]) rfl) ?_
  refine own_fw (fun _ => ox_aloadN X33_2.here hx (hb hby d33_14) rfl rfl) ?_
  refine own_fw (fun _ => ox_iloadN X33_2.here hx (hb hby d33_15) rfl) ?_
  refine own_fw (fun _ => ox_aload X33_2.here hx (hb hby d33_16) rfl rfl) ?_
  refine own_fw (fun _ => ox_iconst X33_2.here hx (hb hby d33_18)) ?_
  refine own_fw (fun _ => ox_aloadN X33_2.here hx (hb hby d33_19) rfl rfl) ?_
  obtain ⟨cl33_3, Ar33_3, q33_3, S33_3, Ng33_3, Hs33_3, G33_3⟩ := id (V_0.ext E33_2)
  have st33_3 := X33_2.arraylength hx (by rw [e33_2]; exact Ar33_3.1) (State.isArrayOf_alike hZ.alike Ar33_3.2.1) (g := (mkF m 20 #[.val (.ref r0), .val (.int (2 : Int32)), .val (.int (4 : Int32)), .val (.int (2 : Int32)), .val (.ref b33_2)] [(.ref r0), (.int (0 : Int32)), (.ref b33_2), (.int (2 : Int32)), (.ref r0)])) rfl rfl (hb hby d33_20)
  rw [len_of S33_3 Ng33_3] at st33_3
  refine own_fw (A := T33_2.setTop (mkF m 21 #[.val (.ref r0), .val (.int (2 : Int32)), .val (.int (4 : Int32)), .val (.int (2 : Int32)), .val (.ref b33_2)] [(.int (4 : Int32)), (.int (0 : Int32)), (.ref b33_2), (.int (2 : Int32)), (.ref r0)])) st33_3 ?_
  refine own_fw (fun _ => ox_iloadN X33_2.here hx (hb hby d33_21) rfl) ?_
  refine own_fw (fun _ => ox_isub X33_2.here hx (hb hby d33_22) rfl) ?_
  refine own_fw (fun _ => ox_iloadN X33_2.here hx (hb hby d33_23) rfl) ?_
  refine own_sc X33_2 hx hZ hown (rmMN_Z l Z a0 hw []  h33_2 n0 (Nat.le_trans Z0 E33_2.1) ) (own_w hw 194 rfl) (own_w hw 195 rfl) (own_w hw 197 rfl) (own_w hw 196 rfl) (by decide) hml rfl e33_2 (hb hby d33_24) rfl rfl (lenOf pd33_1 rfl) (W := 4) rfl (by decide) (by decide) (c' := 1) (s' := 2) rfl rfl (by decide) (by decide) ?_
  rintro _ T33_4 L33_4 X33_4 ⟨rfl, N33_4q, e33_4⟩
  have N33_4 := Fr.app N33_1 N33_4q
  have tk33_5 : ∀ i, i < 2 → ∀ x, ([(.int (48 : Int32)), (.int (32 : Int32)), (.int (90 : Int32)), (.int (90 : Int32))] : List Value).getD (2 + i) (.int 0) = .ref x → Sto Z h33_2 b33_2 (.ref x) := by
    intro i hi x hx
    match i, hi with
    | 0, _ => cases hx
    | 1, _ => cases hx
    | (j + 2), hj => omega
  obtain ⟨T33_5, h33_5, L33_5, X33_5, e33_5, N33_5, K33_5, Va33_5, st33_5⟩ := own_ac X33_4 hx hZ hown (own_w hw 198 rfl) (own_w hw 201 rfl) (own_w hw 199 rfl) (own_w hw 200 rfl) e33_4 (o := 2) (q := 0) (n := 2) (V_0.ext E33_2) V_b33_2 (by decide) (by decide) (by decide) (by decide) (by decide) tk33_5 N33_4 g_b33_2 (g := (mkF m 27 #[.val (.ref r0), .val (.int (2 : Int32)), .val (.int (4 : Int32)), .val (.int (2 : Int32)), .val (.ref b33_2)] [(.int (2 : Int32)), (.int (0 : Int32)), (.ref b33_2), (.int (2 : Int32)), (.ref r0)])) rfl (by rw [hml]; rfl) (rest := []) rfl (hb hby d33_27) (by decide) (W := 0) (own_mr rfl) (by decide)
  have V33_5 : Arv Z h33_5 b33_2 k33_2 .byte (2 : Int32) [(.int (90 : Int32)), (.int (90 : Int32))] (.int (0 : Int32)) := Va33_5
  refine own_fw (A := T33_5.setTop (mkF m 30 #[.val (.ref r0), .val (.int (2 : Int32)), .val (.int (4 : Int32)), .val (.int (2 : Int32)), .val (.ref b33_2)] [])) st33_5 ?_
  refine own_fw (fun _ => ox_aload X33_5.here hx (hb hby d33_30) rfl rfl) ?_
  exact own_leaf X33_5 (v := some (.ref b33_2)) (own_ret Bd.returns) (BodyLoose.notSynchronized Bd) e33_5 (⟨b33_2, k33_2, rfl, N33_5, (((Keep.refl h0 []).ext E33_2).trans K33_5 (allS (Or.inr sz_b33_2) all0)), V33_5, sz_b33_2⟩) (by decide) (by decide) (fun fs hr => retA (ty := (.array .byte)) X33_5 hx rfl rfl Bd.returns (hb hby d33_32) hr)
theorem rmRG_Z (l : Launch) (Z : State) (a0 : Array Value) (hw : ∀ d ∈ tables_1, d.before a0 Z = true) (ws : List Jvm.Cond) (r0 : Addr) (kb : ClassId) (h0 : Heap) (n0 : Nat) (Z0 : n0 ≤ h0.size) (V_0 : Arv Z h0 r0 kb .byte (4 : Int32) [(.int (48 : Int32)), (.int (32 : Int32)), (.int (90 : Int32)), (.int (90 : Int32))] (.int 0)) : OwnC l Z mN21 (Jvm.Cond.code mN21 jdk_65_method_132_code 3 (some (.array .byte)) :: ws) ({ frames := 2, cells := 1, slots := 2, locals := 34 } : Room) #[(.ref r0), (.int (2 : Int32)), (.int (4 : Int32))] h0 (Q32 Z (2 : Int32) [(.int (90 : Int32)), (.int (90 : Int32))] h0 n0) := by
  refine own_body (plainFor_of_name pn32) (fun m => ef32 m r0 (2 : Int32) (4 : Int32)) ?_
  intro p e s m below meth c s₁ Bd hZ hml hown e0 hx hby hnm X0
  have N0 := Fr.nil n0
  refine own_fw (fun _ => ox_iloadN X0.here hx (hb hby d32_0) rfl) ?_
  refine own_fw (fun _ => ox_ifYes X0.here hx (pc0 := 1) (pc' := 10) rfl (hb hby d32_1) rfl ((if0 _ _).trans (feq (by decide : ¬ ((2 : Int32) = (0 : Int32)))).2) (by decide) (by decide)) ?_
  refine own_fw (fun _ => ox_aloadN X0.here hx (hb hby d32_10) rfl rfl) ?_
  refine own_fw (fun _ => ox_iloadN X0.here hx (hb hby d32_11) rfl) ?_
  refine own_fw (fun _ => ox_iloadN X0.here hx (hb hby d32_12) rfl) ?_
  refine own_sc X0 hx hZ hown (rmRB_Z l Z a0 hw [] r0 kb h0 n0 Z0 V_0) (own_w hw 188 rfl) (own_w hw 189 rfl) (own_w hw 190 rfl) (own_w hw 186 rfl) (by decide) hml rfl e0 (hb hby d32_13) rfl rfl (lenOf pd32_0 rfl) (W := 0) rfl (by decide) (by decide) (c' := 1) (s' := 2) rfl rfl (by decide) (by decide) ?_
  rintro _ T32_1 L32_1 X32_1 ⟨bc32_1, kb32_1, rfl, N32_1q, K32_1, Vb32_1, zb32_1⟩
  have N32_1 := Fr.app N0 N32_1q
  have sz_bc32_1 : h0.size ≤ bc32_1 := Nat.le_trans (Keep.refl h0 []).1 zb32_1
  exact own_leaf X32_1 (v := some (.ref bc32_1)) (own_ret Bd.returns) (BodyLoose.notSynchronized Bd) rfl (⟨bc32_1, kb32_1, rfl, N32_1, ((Keep.refl h0 []).trans K32_1 all0), Vb32_1, sz_bc32_1⟩) (by decide) (by decide) (fun fs hr => retA (ty := (.array .byte)) X32_1 hx rfl rfl Bd.returns (hb hby d32_16) hr)
theorem rmNS_Z (l : Launch) (Z : State) (a0 : Array Value) (hw : ∀ d ∈ tables_1, d.before a0 Z = true) (ws : List Jvm.Cond) (r0 : Addr) (kb : ClassId) (h0 : Heap) (n0 : Nat) (Z0 : n0 ≤ h0.size) (V_0 : Arv Z h0 r0 kb .byte (4 : Int32) [(.int (48 : Int32)), (.int (32 : Int32)), (.int (90 : Int32)), (.int (90 : Int32))] (.int 0)) : OwnC l Z mN22 (Jvm.Cond.code mN22 jdk_43_method_47_code 3 (some (.object "java/lang/String")) :: ws) ({ frames := 3, cells := 2, slots := 6, locals := 50 } : Room) #[(.ref r0), (.int (2 : Int32)), (.int (2 : Int32))] h0 (Q31 Z (2 : Int32) [(.int (90 : Int32)), (.int (90 : Int32))] h0 n0) := by
  refine own_body (plainFor_of_name pn31) (fun m => ef31 m r0 (2 : Int32) (2 : Int32)) ?_
  intro p e s m below meth c s₁ Bd hZ hml hown e0 hx hby hnm X0
  have N0 := Fr.nil n0
  refine own_fw (fun _ => ox_iloadN X0.here hx (hb hby d31_0) rfl) ?_
  refine own_fw (fun _ => ox_ifYes X0.here hx (pc0 := 1) (pc' := 7) rfl (hb hby d31_1) rfl ((if0 _ _).trans (feq (by decide : ¬ ((2 : Int32) = (0 : Int32)))).2) (by decide) (by decide)) ?_
  obtain ⟨T31_1, h31_1, X31_1, e31_1, E31_1, A31_1, D31_1, -, st31_1⟩ := newO X0 hx hZ hown (own_w hw 183 rfl) (own_w hw 18 rfl) (own_w hw 19 rfl) e0 (g := (mkF m 7 #[.val (.ref r0), .val (.int (2 : Int32)), .val (.int (2 : Int32))] [])) rfl (hb hby d31_7) (by decide) (by decide)
  obtain ⟨b31_1, g31_1⟩ : ∃ z, z = h0.size := ⟨_, rfl⟩
  rw [← g31_1] at A31_1 D31_1 st31_1
  have g_b31_1 : n0 ≤ b31_1 := Nat.le_trans Z0 (Nat.le_of_eq g31_1.symm)
  have sz_b31_1 : h0.size ≤ b31_1 := Nat.le_trans (Keep.refl h0 []).1 (Nat.le_of_eq g31_1.symm)
  have F_coder_b31_1 : Fld Z h31_1 b31_1 "java/lang/String" "coder" "B" (.int (0 : Int32)) := D31_1 (Or.inr (own_w hw 41 rfl)) (ty := .byte) (by decide)
  have F_value_b31_1 : Fld Z h31_1 b31_1 "java/lang/String" "value" "[B" .null := D31_1 (Or.inr (own_w hw 43 rfl)) (ty := (.array .byte)) (by decide)
  refine own_fw (A := T31_1.setTop (mkF m 10 #[.val (.ref r0), .val (.int (2 : Int32)), .val (.int (2 : Int32))] [(.ref b31_1)])) st31_1 ?_
  refine own_fw (fun _ => ox_dup X31_1.here hx (hb hby d31_10) rfl rfl) ?_
  refine own_fw (fun _ => ox_aloadN X31_1.here hx (hb hby d31_11) rfl rfl) ?_
  refine own_fw (fun _ => ox_iloadN X31_1.here hx (hb hby d31_12) rfl) ?_
  refine own_fw (fun _ => ox_iloadN X31_1.here hx (hb hby d31_13) rfl) ?_
  refine own_fw (fun _ => ox_iloadN X31_1.here hx (hb hby d31_14) rfl) ?_
  refine own_fw (fun _ => ox_iadd X31_1.here hx (hb hby d31_15) rfl) ?_
  refine own_sc X31_1 hx hZ hown (rmRG_Z l Z a0 hw [] r0 kb h31_1 n0 (Nat.le_trans Z0 E31_1.1) (V_0.ext E31_1)) (own_w hw 184 rfl) (own_w hw 185 rfl) (own_w hw 187 rfl) (own_w hw 186 rfl) (by decide) hml rfl e31_1 (hb hby d31_16) rfl rfl (lenOf pd31_0 rfl) (W := 2) rfl (by decide) (by decide) (c' := 2) (s' := 6) rfl rfl (by decide) (by decide) ?_
  rintro _ T31_2 L31_2 X31_2 ⟨bc31_2, kb31_2, rfl, N31_2q, K31_2, Vb31_2, zb31_2⟩
  have N31_2 := Fr.app N0 N31_2q
  have ne_b31_1_bc31_2 : b31_1 ≠ bc31_2 := Nat.ne_of_lt (Nat.lt_of_lt_of_le F_coder_b31_1.lt zb31_2)
  have sz_bc31_2 : h0.size ≤ bc31_2 := Nat.le_trans ((Keep.refl h0 []).ext E31_1).1 zb31_2
  refine own_fw (fun _ => ox_iconst X31_2.here hx (hb hby d31_19)) ?_
  refine own_ic X31_2 hx hZ hown (rm36 l Z a0 hw [] b31_1 bc31_2 T31_2.heap n0 (Nat.le_trans (Nat.le_trans Z0 E31_1.1) K31_2.1) (A31_1.keep K31_2) (F_value_b31_1.keep K31_2 (fun q => nomatch q)) (F_coder_b31_1.keep K31_2 (fun q => nomatch q)) g_b31_1) (own_w hw 202 rfl) (own_w hw 203 rfl) (own_w hw 204 rfl) (own_w hw 19 rfl) rfl (by decide) hml rfl rfl (hb hby d31_20) rfl rfl (lenOf pd31_1 rfl) (W := 1) rfl (by decide) (by decide) (c' := 2) (s' := 6) rfl rfl (by decide) (by decide) ?_
  rintro _ T31_3 L31_3 X31_3 ⟨rfl, N31_3q, K31_3, E31_3, Sv31_3⟩
  have N31_3 := Fr.app N31_2 N31_3q
  exact own_leaf X31_3 (v := some (.ref b31_1)) (own_ret Bd.returns) (BodyLoose.notSynchronized Bd) rfl (⟨b31_1, bc31_2, kb31_2, rfl, N31_3, ((((Keep.refl h0 []).ext E31_1).trans K31_2 all0).trans K31_3 (allS (Or.inr sz_b31_1) all0)), E31_3, Sv31_3, (Vb31_2.keep K31_3 (fun q => (Ne.symm ne_b31_1_bc31_2) (List.mem_singleton.mp q))), sz_b31_1, sz_bc31_2⟩) (by decide) (by decide) (fun fs hr => retA (ty := (.object "java/lang/String")) X31_3 hx rfl rfl Bd.returns (hb hby d31_23) hr)
theorem rmS2_Z (l : Launch) (Z : State) (a0 : Array Value) (hw : ∀ d ∈ tables_1, d.before a0 Z = true) (ws : List Jvm.Cond) (r0 : Addr) (vb : Addr) (kb : ClassId) (cc : Int32) (fv : Value) (ra : Addr) (h0 : Heap) (n0 : Nat) (Z0 : n0 ≤ h0.size) (Et : Exa Z h0 r0 "java/lang/String") (Svt : Fld Z h0 r0 "java/lang/String" "value" "[B" (.ref vb)) (Sct : Fld Z h0 r0 "java/lang/String" "coder" "B" (.int 0)) (Vt : Arv Z h0 vb kb .byte (4 : Int32) [(.int (48 : Int32)), (.int (32 : Int32)), (.int (90 : Int32)), (.int (90 : Int32))] (.int 0)) (OO : OwnOld Z n0 h0 cc fv ra) : OwnC l Z mN23 (Jvm.Cond.code mN23 jdk_42_method_92_code 5 (some (.object "java/lang/String")) :: ws) ({ frames := 4, cells := 2, slots := 6, locals := 64 } : Room) #[(.ref r0), (.int (2 : Int32)), (.int (4 : Int32))] h0 (Q28 Z (2 : Int32) [(.int (90 : Int32)), (.int (90 : Int32))] h0 n0) := by
  refine own_body (plainFor_of_name pn28) (fun m => ef28 m r0 (2 : Int32) (4 : Int32)) ?_
  intro p e s m below meth c s₁ Bd hZ hml hown e0 hx hby hnm X0
  have N0 := Fr.nil n0
  obtain ⟨O_0, S_c, hcc, S_f, hfv, S_r⟩ := OO
  refine own_fw (fun _ => ox_aloadN X0.here hx (hb hby d28_0) rfl rfl) ?_
  refine own_vc X0 hx hZ hown (rmLN_Z l Z a0 hw [] r0 vb kb cc fv ra h0 n0 Z0 Et Svt Sct Vt ⟨O_0, S_c, hcc, S_f, hfv, S_r⟩) (own_w hw 168 rfl) (own_w hw 115 rfl) (own_w hw 117 rfl) (own_w hw 116 rfl) (own_w hw 118 rfl) (own_w hw 19 rfl) (by decide) hml rfl Et e0 (hb hby d28_1) rfl rfl (lenOf pd28_0 rfl) (W := 0) rfl (by decide) (by decide) (c' := 0) (s' := 0) rfl rfl (by decide) (by decide) ?_
  rintro _ T28_1 L28_1 X28_1 ⟨rfl, N28_1q, e28_1⟩
  have N28_1 := Fr.app N0 N28_1q
  refine own_fw (fun _ => ox_istoreN X28_1.here hx (hb hby d28_4) rfl (l' := #[.val (.ref r0), .val (.int (2 : Int32)), .val (.int (4 : Int32)), .val (.int (4 : Int32)), .unset]) rfl) ?_
  refine own_fw (fun _ => ox_iloadN X28_1.here hx (hb hby d28_5) rfl) ?_
  refine own_fw (fun _ => ox_iloadN X28_1.here hx (hb hby d28_6) rfl) ?_
  refine own_fw (fun _ => ox_iloadN X28_1.here hx (hb hby d28_7) rfl) ?_
  refine own_sc X28_1 hx hZ hown (rm29 l Z a0 hw [] (2 : Int32) (4 : Int32) (4 : Int32) cc fv ra h0 n0 Z0 (by decide) (by decide) (by decide) ⟨O_0, S_c, hcc, S_f, hfv, S_r⟩) (own_w hw 174 rfl) (own_w hw 175 rfl) (own_w hw 176 rfl) (own_w hw 19 rfl) (by decide) hml rfl e28_1 (hb hby d28_8) rfl rfl (lenOf pd28_1 rfl) (W := 0) rfl (by decide) (by decide) (c' := 0) (s' := 0) rfl rfl (by decide) (by decide) ?_
  rintro _ T28_2 L28_2 X28_2 ⟨rfl, N28_2q, e28_2⟩
  have N28_2 := Fr.app N28_1 N28_2q
  refine own_fw (fun _ => ox_iloadN X28_2.here hx (hb hby d28_11) rfl) ?_
  refine own_fw (fun _ => ox_ifYes X28_2.here hx (pc0 := 12) (pc' := 22) rfl (hb hby d28_12) rfl ((if0 _ _).trans (feq (by decide : ¬ ((2 : Int32) = (0 : Int32)))).2) (by decide) (by decide)) ?_
  refine own_fw (fun _ => ox_iloadN X28_2.here hx (hb hby d28_22) rfl) ?_
  refine own_fw (fun _ => ox_iloadN X28_2.here hx (hb hby d28_23) rfl) ?_
  refine own_fw (fun _ => ox_isub X28_2.here hx (hb hby d28_24) rfl) ?_
  refine own_fw (fun _ => ox_istore X28_2.here hx (hb hby d28_25) rfl (l' := #[.val (.ref r0), .val (.int (2 : Int32)), .val (.int (4 : Int32)), .val (.int (4 : Int32)), .val (.int (2 : Int32))]) rfl) ?_
  refine own_fw (fun _ => ox_aloadN X28_2.here hx (hb hby d28_27) rfl rfl) ?_
  refine own_vc X28_2 hx hZ hown (rm19 l Z a0 hw [] r0 cc fv ra h0 n0 Z0 Sct ⟨O_0, S_c, hcc, S_f, hfv, S_r⟩) (own_w hw 129 rfl) (own_w hw 130 rfl) (own_w hw 132 rfl) (own_w hw 131 rfl) (own_w hw 133 rfl) (own_w hw 19 rfl) (by decide) hml rfl Et e28_2 (hb hby d28_28) rfl rfl (lenOf pd28_2 rfl) (W := 0) rfl (by decide) (by decide) (c' := 0) (s' := 0) rfl rfl (by decide) (by decide) ?_
  rintro _ T28_3 L28_3 X28_3 ⟨rfl, N28_3q, e28_3⟩
  have N28_3 := Fr.app N28_2 N28_3q
  refine own_fw (fun _ => ox_ifNo X28_3.here hx (hb hby d28_31) rfl ((if0 _ _).trans (feq (by decide : ¬ ((1 : Int32) = (0 : Int32)))).1)) ?_
  refine own_fw (fun _ => ox_aloadN X28_3.here hx (hb hby d28_34) rfl rfl) ?_
  refine own_gf X28_3 hx hZ hown (own_w hw 42 rfl) Via.refl e28_3 Svt (hb hby d28_35) rfl fun T28_4 X28_4 e28_4 => ?_
  refine own_fw (fun _ => ox_iloadN X28_4.here hx (hb hby d28_38) rfl) ?_
  refine own_fw (fun _ => ox_iload X28_4.here hx (hb hby d28_39) rfl) ?_
  refine own_sc X28_4 hx hZ hown (rmNS_Z l Z a0 hw [] vb kb h0 n0 Z0 Vt) (own_w hw 180 rfl) (own_w hw 181 rfl) (own_w hw 182 rfl) (own_w hw 136 rfl) (by decide) hml rfl e28_4 (hb hby d28_41) rfl rfl (lenOf pd28_3 rfl) (W := 0) rfl (by decide) (by decide) (c' := 2) (s' := 6) rfl rfl (by decide) (by decide) ?_
  rintro _ T28_5 L28_5 X28_5 ⟨rs28_5, bs28_5, kb28_5, rfl, N28_5q, K28_5, E28_5, Sv28_5, Vb28_5, zr28_5, zb28_5⟩
  have N28_5 := Fr.app N28_3 N28_5q
  have sz_rs28_5 : h0.size ≤ rs28_5 := Nat.le_trans (Keep.refl h0 []).1 zr28_5
  have sz_bs28_5 : h0.size ≤ bs28_5 := Nat.le_trans (Keep.refl h0 []).1 zb28_5
  refine own_fw (fun _ => ox_goto X28_5.here hx (pc0 := 44) (pc' := 57) rfl (hb hby d28_44) (by decide) (by decide)) ?_
  exact own_leaf X28_5 (v := some (.ref rs28_5)) (own_ret Bd.returns) (BodyLoose.notSynchronized Bd) rfl (⟨rs28_5, bs28_5, kb28_5, rfl, N28_5, ((Keep.refl h0 []).trans K28_5 all0), E28_5, Sv28_5, Vb28_5, sz_rs28_5, sz_bs28_5⟩) (by decide) (by decide) (fun fs hr => retA (ty := (.object "java/lang/String")) X28_5 hx rfl rfl Bd.returns (hb hby d28_57) hr)
theorem rmS0_Z (l : Launch) (Z : State) (a0 : Array Value) (hw : ∀ d ∈ tables_1, d.before a0 Z = true) (ws : List Jvm.Cond) (r0 : Addr) (vb : Addr) (kb : ClassId) (cc : Int32) (fv : Value) (ra : Addr) (h0 : Heap) (n0 : Nat) (Z0 : n0 ≤ h0.size) (Et : Exa Z h0 r0 "java/lang/String") (Svt : Fld Z h0 r0 "java/lang/String" "value" "[B" (.ref vb)) (Sct : Fld Z h0 r0 "java/lang/String" "coder" "B" (.int 0)) (Vt : Arv Z h0 vb kb .byte (4 : Int32) [(.int (48 : Int32)), (.int (32 : Int32)), (.int (90 : Int32)), (.int (90 : Int32))] (.int 0)) (OO : OwnOld Z n0 h0 cc fv ra) : OwnC l Z mN24 (Jvm.Cond.code mN24 jdk_42_method_91_code 2 (some (.object "java/lang/String")) :: ws) ({ frames := 5, cells := 2, slots := 6, locals := 80 } : Room) #[(.ref r0), (.int (2 : Int32))] h0 (Q27 Z (2 : Int32) [(.int (90 : Int32)), (.int (90 : Int32))] h0 n0) := by
  refine own_body (plainFor_of_name pn27) (fun m => ef27 m r0 (2 : Int32)) ?_
  intro p e s m below meth c s₁ Bd hZ hml hown e0 hx hby hnm X0
  have N0 := Fr.nil n0
  obtain ⟨O_0, S_c, hcc, S_f, hfv, S_r⟩ := OO
  refine own_fw (fun _ => ox_aloadN X0.here hx (hb hby d27_0) rfl rfl) ?_
  refine own_fw (fun _ => ox_iloadN X0.here hx (hb hby d27_1) rfl) ?_
  refine own_fw (fun _ => ox_aloadN X0.here hx (hb hby d27_2) rfl rfl) ?_
  refine own_vc X0 hx hZ hown (rmLN_Z l Z a0 hw [] r0 vb kb cc fv ra h0 n0 Z0 Et Svt Sct Vt ⟨O_0, S_c, hcc, S_f, hfv, S_r⟩) (own_w hw 168 rfl) (own_w hw 115 rfl) (own_w hw 117 rfl) (own_w hw 116 rfl) (own_w hw 118 rfl) (own_w hw 19 rfl) (by decide) hml rfl Et e0 (hb hby d27_3) rfl rfl (lenOf pd27_0 rfl) (W := 2) rfl (by decide) (by decide) (c' := 0) (s' := 0) rfl rfl (by decide) (by decide) ?_
  rintro _ T27_1 L27_1 X27_1 ⟨rfl, N27_1q, e27_1⟩
  have N27_1 := Fr.app N0 N27_1q
  refine own_vc X27_1 hx hZ hown (rmS2_Z l Z a0 hw [] r0 vb kb cc fv ra h0 n0 Z0 Et Svt Sct Vt ⟨O_0, S_c, hcc, S_f, hfv, S_r⟩) (own_w hw 169 rfl) (own_w hw 170 rfl) (own_w hw 172 rfl) (own_w hw 171 rfl) (own_w hw 173 rfl) (own_w hw 19 rfl) (by decide) hml rfl Et e27_1 (hb hby d27_6) rfl rfl (lenOf pd27_1 rfl) (W := 0) rfl (by decide) (by decide) (c' := 2) (s' := 6) rfl rfl (by decide) (by decide) ?_
  rintro _ T27_2 L27_2 X27_2 ⟨rs27_2, bs27_2, kb27_2, rfl, N27_2q, K27_2, E27_2, Sv27_2, Vb27_2, zr27_2, zb27_2⟩
  have N27_2 := Fr.app N27_1 N27_2q
  have sz_rs27_2 : h0.size ≤ rs27_2 := Nat.le_trans (Keep.refl h0 []).1 zr27_2
  have sz_bs27_2 : h0.size ≤ bs27_2 := Nat.le_trans (Keep.refl h0 []).1 zb27_2
  exact own_leaf X27_2 (v := some (.ref rs27_2)) (own_ret Bd.returns) (BodyLoose.notSynchronized Bd) rfl (⟨rs27_2, bs27_2, kb27_2, rfl, N27_2, ((Keep.refl h0 []).trans K27_2 all0), E27_2, Sv27_2, Vb27_2, sz_rs27_2, sz_bs27_2⟩) (by decide) (by decide) (fun fs hr => retA (ty := (.object "java/lang/String")) X27_2 hx rfl rfl Bd.returns (hb hby d27_9) hr)
theorem rmRE_Z (l : Launch) (Z : State) (a0 : Array Value) (hw : ∀ d ∈ tables_1, d.before a0 Z = true) (ws : List Jvm.Cond) (r0 : Addr) (tx : Addr) (vb : Addr) (kb : ClassId) (cc : Int32) (fv : Value) (ra : Addr) (h0 : Heap) (n0 : Nat) (Z0 : n0 ≤ h0.size) (Ex : Exa Z h0 r0 "com/example/copperline/copperline/Lexer") (Fx : Fld Z h0 r0 "com/example/copperline/copperline/Lexer" "text" "Ljava/lang/String;" (.ref tx)) (Fp : Fld Z h0 r0 "com/example/copperline/copperline/Lexer" "position" "I" (.int (1 : Int32))) (Et : Exa Z h0 tx "java/lang/String") (Svt : Fld Z h0 tx "java/lang/String" "value" "[B" (.ref vb)) (Sct : Fld Z h0 tx "java/lang/String" "coder" "B" (.int 0)) (Vt : Arv Z h0 vb kb .byte (4 : Int32) [(.int (48 : Int32)), (.int (32 : Int32)), (.int (90 : Int32)), (.int (90 : Int32))] (.int 0)) (nx : tx ≠ r0) (nv : vb ≠ r0) (g_r0 : n0 ≤ r0) (OO : OwnOld Z n0 h0 cc fv ra) : OwnC l Z mN25 (Jvm.Cond.code mN25 prog_36_method_8_code 2 (some (.object "java/lang/String")) :: ws) ({ frames := 6, cells := 2, slots := 6, locals := 93 } : Room) #[(.ref r0)] h0 (Q26 Z r0 (2 : Int32) [(.int (90 : Int32)), (.int (90 : Int32))] h0 n0) := by
  refine own_body (plainFor_of_name pn26) (fun m => ef26 m r0) ?_
  intro p e s m below meth c s₁ Bd hZ hml hown e0 hx hby hnm X0
  have N0 := Fr.nil n0
  obtain ⟨O_0, S_c, hcc, S_f, hfv, S_r⟩ := OO
  refine own_fw (fun _ => ox_aloadN X0.here hx (hb hby d26_0) rfl rfl) ?_
  refine own_pc X0 hx hZ hown (rmSK_Z1 l Z a0 hw [] r0 tx vb kb cc fv ra h0 n0 Z0 Ex Fx Fp Et Svt Sct Vt nx nv g_r0 ⟨O_0, S_c, hcc, S_f, hfv, S_r⟩) (own_w hw 110 rfl) (own_w hw 112 rfl) (own_selP (y := mN4) (own_w hw 88 rfl) (own_w hw 112 rfl) (own_w hw 111 rfl) (by decide)) (own_w hw 111 rfl) (own_w hw 113 rfl) (own_w hw 89 rfl) (by decide) hml rfl Ex e0 (hb hby d26_1) rfl rfl (lenOf pd26_0 rfl) (W := 0) rfl (by decide) (by decide) (c' := 0) (s' := 0) rfl rfl (by decide) (by decide) ?_
  rintro _ T26_1 L26_1 X26_1 ⟨rfl, N26_1q, K26_1, Ex26_1, Fx26_1, Fp26_1⟩
  have N26_1 := Fr.app N0 N26_1q
  refine own_fw (fun _ => ox_aloadN X26_1.here hx (hb hby d26_4) rfl rfl) ?_
  refine own_gf X26_1 hx hZ hown (own_w hw 99 rfl) Via.refl rfl Fx26_1 (hb hby d26_5) rfl fun T26_2 X26_2 e26_2 => ?_
  refine own_fw (fun _ => ox_aloadN X26_2.here hx (hb hby d26_8) rfl rfl) ?_
  refine own_gf X26_2 hx hZ hown (own_w hw 101 rfl) Via.refl e26_2 Fp26_1 (hb hby d26_9) rfl fun T26_3 X26_3 e26_3 => ?_
  refine own_vc X26_3 hx hZ hown (rmS0_Z l Z a0 hw [] tx vb kb cc fv ra T26_1.heap n0 (Nat.le_trans Z0 K26_1.1) (Et.keep K26_1) (Svt.keep K26_1 (fun q => nx (List.mem_singleton.mp q))) (Sct.keep K26_1 (fun q => nx (List.mem_singleton.mp q))) (Vt.keep K26_1 (fun q => nv (List.mem_singleton.mp q))) ⟨(O_0.keep K26_1 (allS g_r0 all0)), S_c, hcc, S_f, hfv, S_r⟩) (own_w hw 163 rfl) (own_w hw 164 rfl) (own_w hw 166 rfl) (own_w hw 165 rfl) (own_w hw 167 rfl) (own_w hw 19 rfl) (by decide) hml rfl (Et.keep K26_1) e26_3 (hb hby d26_12) rfl rfl (lenOf pd26_1 rfl) (W := 0) rfl (by decide) (by decide) (c' := 2) (s' := 6) rfl rfl (by decide) (by decide) ?_
  rintro _ T26_4 L26_4 X26_4 ⟨rs26_4, bs26_4, kb26_4, rfl, N26_4q, K26_4, E26_4, Sv26_4, Vb26_4, zr26_4, zb26_4⟩
  have N26_4 := Fr.app N26_1 N26_4q
  have ne_r0_rs26_4 : r0 ≠ rs26_4 := Nat.ne_of_lt (Nat.lt_of_lt_of_le Ex26_1.lt zr26_4)
  have sz_rs26_4 : h0.size ≤ rs26_4 := Nat.le_trans ((Keep.refl h0 [r0]).trans K26_1 (allS (Or.inl (List.mem_of_getElem? (i := 0) rfl)) all0)).1 zr26_4
  have ne_r0_bs26_4 : r0 ≠ bs26_4 := Nat.ne_of_lt (Nat.lt_of_lt_of_le Ex26_1.lt zb26_4)
  have sz_bs26_4 : h0.size ≤ bs26_4 := Nat.le_trans ((Keep.refl h0 [r0]).trans K26_1 (allS (Or.inl (List.mem_of_getElem? (i := 0) rfl)) all0)).1 zb26_4
  refine own_fw (fun _ => ox_astoreN X26_4.here hx (hb hby d26_15) rfl rfl (l' := #[.val (.ref r0), .val (.ref rs26_4)]) rfl) ?_
  refine own_fw (fun _ => ox_aloadN X26_4.here hx (hb hby d26_16) rfl rfl) ?_
  refine own_fw (fun _ => ox_aloadN X26_4.here hx (hb hby d26_17) rfl rfl) ?_
  refine own_gf X26_4 hx hZ hown (own_w hw 99 rfl) Via.refl rfl (Fx26_1.keep K26_4 (fun q => nomatch q)) (hb hby d26_18) rfl fun T26_5 X26_5 e26_5 => ?_
  refine own_vc X26_5 hx hZ hown (rmLN_Z l Z a0 hw [] tx vb kb cc fv ra T26_4.heap n0 (Nat.le_trans (Nat.le_trans Z0 K26_1.1) K26_4.1) ((Et.keep K26_1).keep K26_4) ((Svt.keep K26_1 (fun q => nx (List.mem_singleton.mp q))).keep K26_4 (fun q => nomatch q)) ((Sct.keep K26_1 (fun q => nx (List.mem_singleton.mp q))).keep K26_4 (fun q => nomatch q)) ((Vt.keep K26_1 (fun q => nv (List.mem_singleton.mp q))).keep K26_4 (fun q => nomatch q)) ⟨((O_0.keep K26_1 (allS g_r0 all0)).keep K26_4 all0), S_c, hcc, S_f, hfv, S_r⟩) (own_w hw 114 rfl) (own_w hw 115 rfl) (own_w hw 117 rfl) (own_w hw 116 rfl) (own_w hw 118 rfl) (own_w hw 19 rfl) (by decide) hml rfl ((Et.keep K26_1).keep K26_4) e26_5 (hb hby d26_21) rfl rfl (lenOf pd26_2 rfl) (W := 1) rfl (by decide) (by decide) (c' := 2) (s' := 6) rfl rfl (by decide) (by decide) ?_
  rintro _ T26_6 L26_6 X26_6 ⟨rfl, N26_6q, e26_6⟩
  have N26_6 := Fr.app N26_4 N26_6q
  obtain ⟨T26_7, h26_7, X26_7, e26_7, W26_7, st26_7⟩ := putF X26_6 hx hZ hown (host := "") (Or.inl (own_w hw 101 rfl)) Via.refl e26_6 (Fp26_1.keep K26_4 (fun q => nomatch q)) (Ex26_1.keep K26_4) (Or.inl (own_w hw 102 rfl)) (own_w hw 88 rfl) (ty := .int) (by decide) rfl rfl (g := (mkF m 24 #[.val (.ref r0), .val (.ref rs26_4)] [(.int (4 : Int32)), (.ref r0)])) rfl rfl (hb hby d26_24)
  have Fw26_7 := (Fp26_1.keep K26_4 (fun q => nomatch q)).same W26_7
  have N26_7 := Fr.snoc X26_7 N26_6 g_r0
  refine own_fw (A := T26_7.setTop (mkF m 27 #[.val (.ref r0), .val (.ref rs26_4)] [])) st26_7 ?_
  refine own_fw (fun _ => ox_aloadN X26_7.here hx (hb hby d26_27) rfl rfl) ?_
  exact own_leaf X26_7 (v := some (.ref rs26_4)) (own_ret Bd.returns) (BodyLoose.notSynchronized Bd) e26_7 (⟨rs26_4, bs26_4, kb26_4, rfl, N26_7, ((((Keep.refl h0 [r0]).trans K26_1 (allS (Or.inl (List.mem_of_getElem? (i := 0) rfl)) all0)).trans K26_4 all0).wr W26_7 (Or.inl (List.mem_of_getElem? (i := 0) rfl))), (E26_4.wr W26_7), (Sv26_4.other W26_7 (Or.inl (Ne.symm ne_r0_rs26_4))), (Vb26_4.other W26_7 (Ne.symm ne_r0_bs26_4)), sz_rs26_4, sz_bs26_4⟩) (by decide) (by decide) (fun fs hr => retA (ty := (.object "java/lang/String")) X26_7 hx rfl rfl Bd.returns (hb hby d26_28) hr)
def OwnPG (Z : State) (h : Heap) (p na ta : Addr) (kn kt : ClassId) (sz ver a b : Int32) (v0 v1 : Value) : Prop := Exa Z h p "com/example/copperline/copperline/Program" ∧ Fld Z h p "com/example/copperline/copperline/Program" "numbers" "[I" (.ref na) ∧ Fld Z h p "com/example/copperline/copperline/Program" "texts" "[Ljava/lang/String;" (.ref ta) ∧ Fld Z h p "com/example/copperline/copperline/Program" "size" "I" (.int sz) ∧ Fld Z h p "com/example/copperline/copperline/Program" "version" "I" (.int ver) ∧ Arv Z h na kn .int (16 : Int32) [(.int a), (.int b), (.int (0 : Int32)), (.int (0 : Int32)), (.int (0 : Int32)), (.int (0 : Int32)), (.int (0 : Int32)), (.int (0 : Int32)), (.int (0 : Int32)), (.int (0 : Int32)), (.int (0 : Int32)), (.int (0 : Int32)), (.int (0 : Int32)), (.int (0 : Int32)), (.int (0 : Int32)), (.int (0 : Int32))] (.int 0) ∧ Arv Z h ta kt (.object "java/lang/String") (16 : Int32) [v0, v1, .null, .null, .null, .null, .null, .null, .null, .null, .null, .null, .null, .null, .null, .null] .null ∧ Exa Z h na "[I" ∧ Exa Z h ta "[Ljava/lang/String;" ∧ Ovr Z kt "java/lang/String" ∧ na ≠ ta
theorem d13_0 : decode cB13 0 = .ok (.aload_n 0, 1) := by decide +kernel
theorem d13_1 : decode cB13 1 = .ok (.invokespecial 1, 3) := by decide +kernel
theorem d13_4 : decode cB13 4 = .ok (.aload_n 0, 1) := by decide +kernel
theorem d13_5 : decode cB13 5 = .ok (.iconst (-1), 1) := by decide +kernel
theorem d13_6 : decode cB13 6 = .ok (.putfield 7, 3) := by decide +kernel
theorem d13_9 : decode cB13 9 = .ok (.aload_n 0, 1) := by decide +kernel
theorem d13_10 : decode cB13 10 = .ok (.aload_n 1, 1) := by decide +kernel
theorem d13_11 : decode cB13 11 = .ok (.putfield 13, 3) := by decide +kernel
theorem d13_14 : decode cB13 14 = .ok (.aload_n 0, 1) := by decide +kernel
theorem d13_15 : decode cB13 15 = .ok (.iload_n 2, 1) := by decide +kernel
theorem d13_16 : decode cB13 16 = .ok (.putfield 17, 3) := by decide +kernel
theorem d13_19 : decode cB13 19 = .ok (.aload_n 0, 1) := by decide +kernel
theorem d13_20 : decode cB13 20 = .ok (.aload_n 3, 1) := by decide +kernel
theorem d13_21 : decode cB13 21 = .ok (.putfield 20, 3) := by decide +kernel
theorem d13_24 : decode cB13 24 = .ok (.return_, 1) := by decide +kernel
theorem pn13 : plainName "com/example/copperline/copperline/Lexer" = true := by first | (simp [plainName, overriddenIn]; done) | decide +kernel
theorem ef13 (m : MethodId) (r0 : Addr) (r1 : Addr) (p2 : Int32) (r3 : Addr) : entryFrame m #[(.ref r0), (.ref r1), (.int p2), (.ref r3)] 4 = mkF m 0 #[.val (.ref r0), .val (.ref r1), .val (.int p2), .val (.ref r3)] [] := by first | (simp [entryFrame, mkF, argsToLocals, Value.category]; done) | rfl
def Q13 (Z : State) (r0 tx : Addr) (z : Int32) (h0 : Heap) (n0 : Nat) (w : Option Value) (h : Heap) (L : List Loc) : Prop := w = none ∧ Fr n0 L ∧ Keep h0 h [r0] ∧ Exa Z h r0 "com/example/copperline/copperline/Lexer" ∧ Fld Z h r0 "com/example/copperline/copperline/Lexer" "text" "Ljava/lang/String;" (.ref tx) ∧ Fld Z h r0 "com/example/copperline/copperline/Lexer" "position" "I" (.int z)
theorem rm13 (l : Launch) (Z : State) (a0 : Array Value) (hw : ∀ d ∈ tables_1, d.before a0 Z = true) (ws : List Jvm.Cond) (r0 : Addr) (r1 : Addr) (r3 : Addr) (h0 : Heap) (n0 : Nat) (Z0 : n0 ≤ h0.size) (Ex : Exa Z h0 r0 "com/example/copperline/copperline/Lexer") (F1 : Fld Z h0 r0 "com/example/copperline/copperline/Lexer" "text" "Ljava/lang/String;" .null) (F2 : Fld Z h0 r0 "com/example/copperline/copperline/Lexer" "position" "I" (.int 0)) (F3 : Fld Z h0 r0 "com/example/copperline/copperline/Lexer" "keywordPosition" "I" (.int 0)) (F4 : Fld Z h0 r0 "com/example/copperline/copperline/Lexer" "reading" "Lcom/example/copperline/copperline/Lexer$Reading;" .null) (g_r0 : n0 ≤ r0) : OwnC l Z (⟨"com/example/copperline/copperline/Lexer", "<init>", "(Ljava/lang/String;ILcom/example/copperline/copperline/Lexer$Reading;)V"⟩ : MethodName) (Jvm.Cond.code (⟨"com/example/copperline/copperline/Lexer", "<init>", "(Ljava/lang/String;ILcom/example/copperline/copperline/Lexer$Reading;)V"⟩ : MethodName) prog_36_method_1_code 4 none :: ws) ({ frames := 1, cells := 0, slots := 0, locals := 12 } : Room) #[(.ref r0), (.ref r1), (.int (0 : Int32)), (.ref r3)] h0 (Q13 Z r0 r1 (0 : Int32) h0 n0) := by
  refine own_body (plainFor_of_name pn13) (fun m => ef13 m r0 r1 (0 : Int32) r3) ?_
  intro p e s m below meth c s₁ Bd hZ hml hown e0 hx hby hnm X0
  have N0 := Fr.nil n0
  refine own_fw (fun _ => ox_aloadN X0.here hx (hb hby d13_0) rfl rfl) ?_
  obtain ⟨T13_1, X13_1, e13_1, st13_1⟩ := initO X0 hx hZ hown (own_w hw 96 rfl) (own_w hw 7 rfl) (own_w hw 8 rfl) e0 (g := (mkF m 1 #[.val (.ref r0), .val (.ref r1), .val (.int (0 : Int32)), .val (.ref r3)] [(.ref r0)])) rfl (by rw [hml]; rfl) rfl (hb hby d13_1) (by decide) (W := 0) (own_mr rfl) (by decide)
  refine own_fw (A := T13_1.setTop (mkF m 4 #[.val (.ref r0), .val (.ref r1), .val (.int (0 : Int32)), .val (.ref r3)] [])) st13_1 ?_
  refine own_fw (fun _ => ox_aloadN X13_1.here hx (hb hby d13_4) rfl rfl) ?_
  refine own_fw (fun _ => ox_iconst X13_1.here hx (hb hby d13_5)) ?_
  obtain ⟨T13_2, h13_2, X13_2, e13_2, W13_2, st13_2⟩ := putF X13_1 hx hZ hown (host := "") (Or.inl (own_w hw 97 rfl)) Via.refl e13_1 F3 Ex (Or.inl (own_w hw 98 rfl)) (own_w hw 88 rfl) (ty := .int) (by decide) rfl rfl (g := (mkF m 6 #[.val (.ref r0), .val (.ref r1), .val (.int (0 : Int32)), .val (.ref r3)] [(.int (-1 : Int32)), (.ref r0)])) rfl rfl (hb hby d13_6)
  have Fw13_2 := F3.same W13_2
  have N13_2 := Fr.snoc X13_2 N0 g_r0
  refine own_fw (A := T13_2.setTop (mkF m 9 #[.val (.ref r0), .val (.ref r1), .val (.int (0 : Int32)), .val (.ref r3)] [])) st13_2 ?_
  refine own_fw (fun _ => ox_aloadN X13_2.here hx (hb hby d13_9) rfl rfl) ?_
  refine own_fw (fun _ => ox_aloadN X13_2.here hx (hb hby d13_10) rfl rfl) ?_
  obtain ⟨T13_3, h13_3, X13_3, e13_3, W13_3, st13_3⟩ := putF X13_2 hx hZ hown (host := "") (Or.inl (own_w hw 99 rfl)) Via.refl e13_2 (F1.other W13_2 (Or.inr (slot_ne (Or.inr (own_w hw 100 rfl)) (Or.inl (own_w hw 98 rfl)) (by decide) (t := (.object "java/lang/String")) (t' := .int) (by decide) (by decide)))) (Ex.wr W13_2) (Or.inr ⟨(own_w hw 100 rfl), rfl, hnm⟩) (own_w hw 88 rfl) (ty := (.object "java/lang/String")) (by decide) rfl rfl (g := (mkF m 11 #[.val (.ref r0), .val (.ref r1), .val (.int (0 : Int32)), .val (.ref r3)] [(.ref r1), (.ref r0)])) rfl rfl (hb hby d13_11)
  have Fw13_3 := (F1.other W13_2 (Or.inr (slot_ne (Or.inr (own_w hw 100 rfl)) (Or.inl (own_w hw 98 rfl)) (by decide) (t := (.object "java/lang/String")) (t' := .int) (by decide) (by decide)))).same W13_3
  have N13_3 := Fr.snoc X13_3 N13_2 g_r0
  refine own_fw (A := T13_3.setTop (mkF m 14 #[.val (.ref r0), .val (.ref r1), .val (.int (0 : Int32)), .val (.ref r3)] [])) st13_3 ?_
  refine own_fw (fun _ => ox_aloadN X13_3.here hx (hb hby d13_14) rfl rfl) ?_
  refine own_fw (fun _ => ox_iloadN X13_3.here hx (hb hby d13_15) rfl) ?_
  obtain ⟨T13_4, h13_4, X13_4, e13_4, W13_4, st13_4⟩ := putF X13_3 hx hZ hown (host := "") (Or.inl (own_w hw 101 rfl)) Via.refl e13_3 ((F2.other W13_2 (Or.inr (slot_ne (Or.inl (own_w hw 102 rfl)) (Or.inl (own_w hw 98 rfl)) (by decide) (t := .int) (t' := .int) (by decide) (by decide)))).other W13_3 (Or.inr (slot_ne (Or.inl (own_w hw 102 rfl)) (Or.inr (own_w hw 100 rfl)) (by decide) (t := .int) (t' := (.object "java/lang/String")) (by decide) (by decide)))) ((Ex.wr W13_2).wr W13_3) (Or.inl (own_w hw 102 rfl)) (own_w hw 88 rfl) (ty := .int) (by decide) rfl rfl (g := (mkF m 16 #[.val (.ref r0), .val (.ref r1), .val (.int (0 : Int32)), .val (.ref r3)] [(.int (0 : Int32)), (.ref r0)])) rfl rfl (hb hby d13_16)
  have Fw13_4 := ((F2.other W13_2 (Or.inr (slot_ne (Or.inl (own_w hw 102 rfl)) (Or.inl (own_w hw 98 rfl)) (by decide) (t := .int) (t' := .int) (by decide) (by decide)))).other W13_3 (Or.inr (slot_ne (Or.inl (own_w hw 102 rfl)) (Or.inr (own_w hw 100 rfl)) (by decide) (t := .int) (t' := (.object "java/lang/String")) (by decide) (by decide)))).same W13_4
  have N13_4 := Fr.snoc X13_4 N13_3 g_r0
  refine own_fw (A := T13_4.setTop (mkF m 19 #[.val (.ref r0), .val (.ref r1), .val (.int (0 : Int32)), .val (.ref r3)] [])) st13_4 ?_
  refine own_fw (fun _ => ox_aloadN X13_4.here hx (hb hby d13_19) rfl rfl) ?_
  refine own_fw (fun _ => ox_aloadN X13_4.here hx (hb hby d13_20) rfl rfl) ?_
  obtain ⟨T13_5, h13_5, X13_5, e13_5, W13_5, st13_5⟩ := putF X13_4 hx hZ hown (host := "") (Or.inl (own_w hw 103 rfl)) Via.refl e13_4 (((F4.other W13_2 (Or.inr (slot_ne (Or.inr (own_w hw 104 rfl)) (Or.inl (own_w hw 98 rfl)) (by decide) (t := (.object "com/example/copperline/copperline/Lexer$Reading")) (t' := .int) (by decide) (by decide)))).other W13_3 (Or.inr (slot_ne (Or.inr (own_w hw 104 rfl)) (Or.inr (own_w hw 100 rfl)) (by decide) (t := (.object "com/example/copperline/copperline/Lexer$Reading")) (t' := (.object "java/lang/String")) (by decide) (by decide)))).other W13_4 (Or.inr (slot_ne (Or.inr (own_w hw 104 rfl)) (Or.inl (own_w hw 102 rfl)) (by decide) (t := (.object "com/example/copperline/copperline/Lexer$Reading")) (t' := .int) (by decide) (by decide)))) (((Ex.wr W13_2).wr W13_3).wr W13_4) (Or.inr ⟨(own_w hw 104 rfl), rfl, hnm⟩) (own_w hw 88 rfl) (ty := (.object "com/example/copperline/copperline/Lexer$Reading")) (by decide) rfl rfl (g := (mkF m 21 #[.val (.ref r0), .val (.ref r1), .val (.int (0 : Int32)), .val (.ref r3)] [(.ref r3), (.ref r0)])) rfl rfl (hb hby d13_21)
  have Fw13_5 := (((F4.other W13_2 (Or.inr (slot_ne (Or.inr (own_w hw 104 rfl)) (Or.inl (own_w hw 98 rfl)) (by decide) (t := (.object "com/example/copperline/copperline/Lexer$Reading")) (t' := .int) (by decide) (by decide)))).other W13_3 (Or.inr (slot_ne (Or.inr (own_w hw 104 rfl)) (Or.inr (own_w hw 100 rfl)) (by decide) (t := (.object "com/example/copperline/copperline/Lexer$Reading")) (t' := (.object "java/lang/String")) (by decide) (by decide)))).other W13_4 (Or.inr (slot_ne (Or.inr (own_w hw 104 rfl)) (Or.inl (own_w hw 102 rfl)) (by decide) (t := (.object "com/example/copperline/copperline/Lexer$Reading")) (t' := .int) (by decide) (by decide)))).same W13_5
  have N13_5 := Fr.snoc X13_5 N13_4 g_r0
  refine own_fw (A := T13_5.setTop (mkF m 24 #[.val (.ref r0), .val (.ref r1), .val (.int (0 : Int32)), .val (.ref r3)] [])) st13_5 ?_
  exact own_leaf X13_5 (v := none) (fun _ => rfl) (BodyLoose.notSynchronized Bd) e13_5 (⟨rfl, N13_5, (((((Keep.refl h0 [r0]).wr W13_2 (Or.inl (List.mem_of_getElem? (i := 0) rfl))).wr W13_3 (Or.inl (List.mem_of_getElem? (i := 0) rfl))).wr W13_4 (Or.inl (List.mem_of_getElem? (i := 0) rfl))).wr W13_5 (Or.inl (List.mem_of_getElem? (i := 0) rfl))), ((((Ex.wr W13_2).wr W13_3).wr W13_4).wr W13_5), ((Fw13_3.other W13_4 (Or.inr (slot_ne (Or.inr (own_w hw 100 rfl)) (Or.inl (own_w hw 102 rfl)) (by decide) (t := (.object "java/lang/String")) (t' := .int) (by decide) (by decide)))).other W13_5 (Or.inr (slot_ne (Or.inr (own_w hw 100 rfl)) (Or.inr (own_w hw 104 rfl)) (by decide) (t := (.object "java/lang/String")) (t' := (.object "com/example/copperline/copperline/Lexer$Reading")) (by decide) (by decide)))), (Fw13_4.other W13_5 (Or.inr (slot_ne (Or.inl (own_w hw 102 rfl)) (Or.inr (own_w hw 104 rfl)) (by decide) (t := .int) (t' := (.object "com/example/copperline/copperline/Lexer$Reading")) (by decide) (by decide))))⟩) (by decide) (by decide) (fun fs hr => X13_5.returnOut hx Bd.returns (hb hby d13_24) hr)
theorem d39_0 : decode jdk_42_method_55_code 0 = .ok (.aload_n 0, 1) := by decide +kernel
theorem d39_1 : decode jdk_42_method_55_code 1 = .ok (.getfield 9, 3) := by decide +kernel
theorem d39_4 : decode jdk_42_method_55_code 4 = .ok (.arraylength, 1) := by decide +kernel
theorem d39_5 : decode jdk_42_method_55_code 5 = .ok (.ifCond .ne 7, 3) := by decide +kernel
theorem d39_12 : decode jdk_42_method_55_code 12 = .ok (.iconst 0, 1) := by decide +kernel
theorem d39_13 : decode jdk_42_method_55_code 13 = .ok (.ireturn, 1) := by decide +kernel
theorem pn39 : plainName "java/lang/String" = true := by first | (simp [plainName, overriddenIn]; done) | decide +kernel
theorem ef39 (m : MethodId) (r0 : Addr) : entryFrame m #[(.ref r0)] 1 = mkF m 0 #[.val (.ref r0)] [] := by first | (simp [entryFrame, mkF, argsToLocals, Value.category]; done) | rfl
def Q39 (Z : State) (z : Int32) (h0 : Heap) (n0 : Nat) (w : Option Value) (h : Heap) (L : List Loc) : Prop := w = some (.int z) ∧ Fr n0 L ∧ h = h0
theorem rm39 (l : Launch) (Z : State) (a0 : Array Value) (hw : ∀ d ∈ tables_1, d.before a0 Z = true) (ws : List Jvm.Cond) (r0 : Addr) (vb : Addr) (kb : ClassId) (nn : Int32) (vs : List Value) (h0 : Heap) (n0 : Nat) (Z0 : n0 ≤ h0.size) (Sv : Fld Z h0 r0 "java/lang/String" "value" "[B" (.ref vb)) (V_1 : Arv Z h0 vb kb .byte nn vs (.int 0)) (hn : ¬ nn = (0 : Int32)) : OwnC l Z (⟨"java/lang/String", "isEmpty", "()Z"⟩ : MethodName) (Jvm.Cond.code (⟨"java/lang/String", "isEmpty", "()Z"⟩ : MethodName) jdk_42_method_55_code 1 (some .boolean) :: ws) ({ frames := 0, cells := 0, slots := 0, locals := 0 } : Room) #[(.ref r0)] h0 (Q39 Z (0 : Int32) h0 n0) := by
  refine own_body (plainFor_of_name pn39) (fun m => ef39 m r0) ?_
  intro p e s m below meth c s₁ Bd hZ hml hown e0 hx hby hnm X0
  have N0 := Fr.nil n0
  refine own_fw (fun _ => ox_aloadN X0.here hx (hb hby d39_0) rfl rfl) ?_
  refine own_gf X0 hx hZ hown (own_w hw 42 rfl) Via.refl e0 Sv (hb hby d39_1) rfl fun T39_1 X39_1 e39_1 => ?_
  obtain ⟨cl39_2, Ar39_2, q39_2, S39_2, Ng39_2, Hs39_2, G39_2⟩ := id V_1
  have st39_2 := X39_1.arraylength hx (by rw [e39_1]; exact Ar39_2.1) (State.isArrayOf_alike hZ.alike Ar39_2.2.1) (g := (mkF m 4 #[.val (.ref r0)] [(.ref vb)])) rfl rfl (hb hby d39_4)
  rw [len_of S39_2 Ng39_2] at st39_2
  refine own_fw (A := T39_1.setTop (mkF m 5 #[.val (.ref r0)] [(.int nn)])) st39_2 ?_
  refine own_fw (fun _ => ox_ifYes X39_1.here hx (pc0 := 5) (pc' := 12) rfl (hb hby d39_5) rfl ((if0 _ _).trans (feq hn).2) (by decide) (by decide)) ?_
  refine own_fw (fun _ => ox_iconst X39_1.here hx (hb hby d39_12)) ?_
  exact own_leaf X39_1 (v := some (.int (nar .boolean (0 : Int32)))) (own_ret Bd.returns) (BodyLoose.notSynchronized Bd) e39_1 (⟨rfl, N0, rfl⟩) (by decide) (by decide) (fun fs hr => retN X39_1 hx (t := .boolean) Bd.returns (by simp) (hb hby d39_13) hr)
theorem d46_0 : decode cB23 0 = .ok (.iload_n 1, 1) := by decide +kernel
theorem d46_1 : decode cB23 1 = .ok (.iload_n 2, 1) := by decide +kernel
theorem d46_2 : decode cB23 2 = .ok (.if_icmp .le 44, 3) := by decide +kernel
theorem d46_46 : decode cB23 46 = .ok (.iload_n 1, 1) := by decide +kernel
theorem d46_47 : decode cB23 47 = .ok (.ifCond .ge 12, 3) := by decide +kernel
theorem d46_59 : decode cB23 59 = .ok (.iload_n 2, 1) := by decide +kernel
theorem d46_60 : decode cB23 60 = .ok (.iload_n 0, 1) := by decide +kernel
theorem d46_61 : decode cB23 61 = .ok (.if_icmp .le 12, 3) := by decide +kernel
theorem d46_73 : decode cB23 73 = .ok (.return_, 1) := by decide +kernel
theorem pn46 : plainName "java/util/Arrays" = true := by first | (simp [plainName, overriddenIn]; done) | decide +kernel
theorem ef46 (m : MethodId) (p0 : Int32) (p1 : Int32) (p2 : Int32) : entryFrame m #[(.int p0), (.int p1), (.int p2)] 3 = mkF m 0 #[.val (.int p0), .val (.int p1), .val (.int p2)] [] := by first | (simp [entryFrame, mkF, argsToLocals, Value.category]; done) | rfl
def Q46 (Z : State)  (h0 : Heap) (n0 : Nat) (w : Option Value) (h : Heap) (L : List Loc) : Prop := w = none ∧ Fr n0 L ∧ h = h0
theorem d47_0 : decode cB2 0 = .ok (.iload_n 1, 1) := by decide +kernel
theorem d47_1 : decode cB2 1 = .ok (.istore 4, 2) := by decide +kernel
theorem d47_3 : decode cB2 3 = .ok (.iload_n 2, 1) := by decide +kernel
theorem d47_4 : decode cB2 4 = .ok (.iconst 1, 1) := by decide +kernel
theorem d47_5 : decode cB2 5 = .ok (.isub, 1) := by decide +kernel
theorem d47_6 : decode cB2 6 = .ok (.istore 5, 2) := by decide +kernel
theorem d47_8 : decode cB2 8 = .ok (.iload 4, 2) := by decide +kernel
theorem d47_10 : decode cB2 10 = .ok (.iload 5, 2) := by decide +kernel
theorem d47_12 : decode cB2 12 = .ok (.if_icmp .gt 54, 3) := by decide +kernel
theorem d47_15 : decode cB2 15 = .ok (.iload 4, 2) := by decide +kernel
theorem d47_17 : decode cB2 17 = .ok (.iload 5, 2) := by decide +kernel
theorem d47_19 : decode cB2 19 = .ok (.iadd, 1) := by decide +kernel
theorem d47_20 : decode cB2 20 = .ok (.iconst 1, 1) := by decide +kernel
theorem d47_21 : decode cB2 21 = .ok (.iushr, 1) := by decide +kernel
theorem d47_22 : decode cB2 22 = .ok (.istore 6, 2) := by decide +kernel
theorem d47_24 : decode cB2 24 = .ok (.aload_n 0, 1) := by decide +kernel
theorem d47_25 : decode cB2 25 = .ok (.iload 6, 2) := by decide +kernel
theorem d47_27 : decode cB2 27 = .ok (.iaload, 1) := by decide +kernel
theorem d47_28 : decode cB2 28 = .ok (.istore 7, 2) := by decide +kernel
theorem d47_30 : decode cB2 30 = .ok (.iload 7, 2) := by decide +kernel
theorem d47_32 : decode cB2 32 = .ok (.iload_n 3, 1) := by decide +kernel
theorem d47_33 : decode cB2 33 = .ok (.if_icmp .ge 12, 3) := by decide +kernel
theorem d47_45 : decode cB2 45 = .ok (.iload 7, 2) := by decide +kernel
theorem d47_47 : decode cB2 47 = .ok (.iload_n 3, 1) := by decide +kernel
theorem d47_48 : decode cB2 48 = .ok (.if_icmp .le 12, 3) := by decide +kernel
theorem d47_51 : decode cB2 51 = .ok (.iload 6, 2) := by decide +kernel
theorem d47_53 : decode cB2 53 = .ok (.iconst 1, 1) := by decide +kernel
theorem d47_54 : decode cB2 54 = .ok (.isub, 1) := by decide +kernel
theorem d47_55 : decode cB2 55 = .ok (.istore 5, 2) := by decide +kernel
theorem d47_57 : decode cB2 57 = .ok (.goto 6, 3) := by decide +kernel
theorem d47_60 : decode cB2 60 = .ok (.iload 6, 2) := by decide +kernel
theorem d47_62 : decode cB2 62 = .ok (.ireturn, 1) := by decide +kernel
theorem d47_63 : decode cB2 63 = .ok (.goto (-55), 3) := by decide +kernel
theorem d47_66 : decode cB2 66 = .ok (.iload 4, 2) := by decide +kernel
theorem d47_68 : decode cB2 68 = .ok (.iconst 1, 1) := by decide +kernel
theorem d47_69 : decode cB2 69 = .ok (.iadd, 1) := by decide +kernel
theorem d47_70 : decode cB2 70 = .ok (.ineg, 1) := by decide +kernel
theorem d47_71 : decode cB2 71 = .ok (.ireturn, 1) := by decide +kernel
theorem pn47 : plainName "java/util/Arrays" = true := by first | (simp [plainName, overriddenIn]; done) | decide +kernel
theorem ef47 (m : MethodId) (r0 : Addr) (p1 : Int32) (p2 : Int32) (p3 : Int32) : entryFrame m #[(.ref r0), (.int p1), (.int p2), (.int p3)] 8 = mkF m 0 #[.val (.ref r0), .val (.int p1), .val (.int p2), .val (.int p3), .unset, .unset, .unset, .unset] [] := by first | (simp [entryFrame, mkF, argsToLocals, Value.category]; done) | rfl
def Q47 (Z : State) (z : Int32) (h0 : Heap) (n0 : Nat) (w : Option Value) (h : Heap) (L : List Loc) : Prop := w = some (.int z) ∧ Fr n0 L ∧ h = h0
theorem d45_0 : decode cB18 0 = .ok (.aload_n 0, 1) := by decide +kernel
theorem d45_1 : decode cB18 1 = .ok (.arraylength, 1) := by decide +kernel
theorem d45_2 : decode cB18 2 = .ok (.iload_n 1, 1) := by decide +kernel
theorem d45_3 : decode cB18 3 = .ok (.iload_n 2, 1) := by decide +kernel
theorem d45_4 : decode cB18 4 = .ok (.invokestatic 13, 3) := by decide +kernel
theorem d45_7 : decode cB18 7 = .ok (.aload_n 0, 1) := by decide +kernel
theorem d45_8 : decode cB18 8 = .ok (.iload_n 1, 1) := by decide +kernel
theorem d45_9 : decode cB18 9 = .ok (.iload_n 2, 1) := by decide +kernel
theorem d45_10 : decode cB18 10 = .ok (.iload_n 3, 1) := by decide +kernel
theorem d45_11 : decode cB18 11 = .ok (.invokestatic 209, 3) := by decide +kernel
theorem d45_14 : decode cB18 14 = .ok (.ireturn, 1) := by decide +kernel
theorem pn45 : plainName "java/util/Arrays" = true := by first | (simp [plainName, overriddenIn]; done) | decide +kernel
theorem pd45_0 : parseMethodDescriptor "(III)V" = some ⟨[.int, .int, .int], none⟩ := by decide +kernel
theorem pd45_1 : parseMethodDescriptor "([IIII)I" = some ⟨[(.array .int), .int, .int, .int], some .int⟩ := by decide +kernel
theorem ef45 (m : MethodId) (r0 : Addr) (p1 : Int32) (p2 : Int32) (p3 : Int32) : entryFrame m #[(.ref r0), (.int p1), (.int p2), (.int p3)] 4 = mkF m 0 #[.val (.ref r0), .val (.int p1), .val (.int p2), .val (.int p3)] [] := by first | (simp [entryFrame, mkF, argsToLocals, Value.category]; done) | rfl
def Q45 (Z : State) (z : Int32) (h0 : Heap) (n0 : Nat) (w : Option Value) (h : Heap) (L : List Loc) : Prop := w = some (.int z) ∧ Fr n0 L ∧ h = h0
theorem d38_0 : decode cB3 0 = .ok (.aload_n 0, 1) := by decide +kernel
theorem d38_1 : decode cB3 1 = .ok (.getfield 62, 3) := by decide +kernel
theorem d38_4 : decode cB3 4 = .ok (.ifCond .eq 18, 3) := by decide +kernel
theorem d38_7 : decode cB3 7 = .ok (.iload_n 1, 1) := by decide +kernel
theorem d38_8 : decode cB3 8 = .ok (.aload_n 0, 1) := by decide +kernel
theorem d38_9 : decode cB3 9 = .ok (.getfield 7, 3) := by decide +kernel
theorem d38_12 : decode cB3 12 = .ok (.aload_n 0, 1) := by decide +kernel
theorem d38_13 : decode cB3 13 = .ok (.getfield 62, 3) := by decide +kernel
theorem d38_16 : decode cB3 16 = .ok (.iconst 1, 1) := by decide +kernel
theorem d38_17 : decode cB3 17 = .ok (.isub, 1) := by decide +kernel
theorem d38_18 : decode cB3 18 = .ok (.iaload, 1) := by decide +kernel
theorem d38_19 : decode cB3 19 = .ok (.if_icmp .le 11, 3) := by decide +kernel
theorem d38_22 : decode cB3 22 = .ok (.aload_n 0, 1) := by decide +kernel
theorem d38_23 : decode cB3 23 = .ok (.getfield 62, 3) := by decide +kernel
theorem d38_26 : decode cB3 26 = .ok (.istore_n 2, 1) := by decide +kernel
theorem d38_27 : decode cB3 27 = .ok (.goto 30, 3) := by decide +kernel
theorem d38_30 : decode cB3 30 = .ok (.aload_n 0, 1) := by decide +kernel
theorem d38_31 : decode cB3 31 = .ok (.getfield 7, 3) := by decide +kernel
theorem d38_34 : decode cB3 34 = .ok (.iconst 0, 1) := by decide +kernel
theorem d38_35 : decode cB3 35 = .ok (.aload_n 0, 1) := by decide +kernel
theorem d38_36 : decode cB3 36 = .ok (.getfield 62, 3) := by decide +kernel
theorem d38_39 : decode cB3 39 = .ok (.iload_n 1, 1) := by decide +kernel
theorem d38_40 : decode cB3 40 = .ok (.invokestatic 145, 3) := by decide +kernel
theorem d38_43 : decode cB3 43 = .ok (.istore_n 3, 1) := by decide +kernel
theorem d38_44 : decode cB3 44 = .ok (.iload_n 3, 1) := by decide +kernel
theorem d38_45 : decode cB3 45 = .ok (.ifCond .lt 7, 3) := by decide +kernel
theorem d38_48 : decode cB3 48 = .ok (.iload_n 3, 1) := by decide +kernel
theorem d38_49 : decode cB3 49 = .ok (.goto 7, 3) := by decide +kernel
theorem d38_52 : decode cB3 52 = .ok (.iload_n 3, 1) := by decide +kernel
theorem d38_53 : decode cB3 53 = .ok (.ineg, 1) := by decide +kernel
theorem d38_54 : decode cB3 54 = .ok (.iconst 1, 1) := by decide +kernel
theorem d38_55 : decode cB3 55 = .ok (.isub, 1) := by decide +kernel
theorem d38_56 : decode cB3 56 = .ok (.istore_n 2, 1) := by decide +kernel
theorem d38_57 : decode cB3 57 = .ok (.iload_n 2, 1) := by decide +kernel
theorem d38_58 : decode cB3 58 = .ok (.ireturn, 1) := by decide +kernel
theorem pn38 : plainName "com/example/copperline/copperline/Program" = true := by first | (simp [plainName, overriddenIn]; done) | decide +kernel
theorem pd38_0 : parseMethodDescriptor "([IIII)I" = some ⟨[(.array .int), .int, .int, .int], some .int⟩ := by decide +kernel
theorem ef38 (m : MethodId) (r0 : Addr) (p1 : Int32) : entryFrame m #[(.ref r0), (.int p1)] 4 = mkF m 0 #[.val (.ref r0), .val (.int p1), .unset, .unset] [] := by first | (simp [entryFrame, mkF, argsToLocals, Value.category]; done) | rfl
def Q38 (Z : State) (z : Int32) (h0 : Heap) (n0 : Nat) (w : Option Value) (h : Heap) (L : List Loc) : Prop := w = some (.int z) ∧ Fr n0 L ∧ h = h0
theorem rmRC_1 (l : Launch) (Z : State) (a0 : Array Value) (hw : ∀ d ∈ tables_1, d.before a0 Z = true) (ws : List Jvm.Cond)  (h0 : Heap) (n0 : Nat) (Z0 : n0 ≤ h0.size) : OwnC l Z mN26 (Jvm.Cond.code mN26 jdk_65_method_30_code 3 none :: ws) ({ frames := 0, cells := 0, slots := 0, locals := 0 } : Room) #[(.int (16 : Int32)), (.int (0 : Int32)), (.int (1 : Int32))] h0 (Q46 Z  h0 n0) := by
  refine own_body (plainFor_of_name pn46) (fun m => ef46 m (16 : Int32) (0 : Int32) (1 : Int32)) ?_
  intro p e s m below meth c s₁ Bd hZ hml hown e0 hx hby hnm X0
  have N0 := Fr.nil n0
  refine own_fw (fun _ => ox_iloadN X0.here hx (hb hby d46_0) rfl) ?_
  refine own_fw (fun _ => ox_iloadN X0.here hx (hb hby d46_1) rfl) ?_
  refine own_fw (fun _ => ox_icmpYes X0.here hx (pc0 := 2) (pc' := 46) rfl (hb hby d46_2) rfl (flt (by decide : ¬ ((1 : Int32) < (0 : Int32)))).2.2.2 (by decide) (by decide)) ?_
  refine own_fw (fun _ => ox_iloadN X0.here hx (hb hby d46_46) rfl) ?_
  refine own_fw (fun _ => ox_ifYes X0.here hx (pc0 := 47) (pc' := 59) rfl (hb hby d46_47) rfl ((if0 _ _).trans (flt (Int32.lt_irrefl : ¬ ((0 : Int32) < (0 : Int32)))).2.1) (by decide) (by decide)) ?_
  refine own_fw (fun _ => ox_iloadN X0.here hx (hb hby d46_59) rfl) ?_
  refine own_fw (fun _ => ox_iloadN X0.here hx (hb hby d46_60) rfl) ?_
  refine own_fw (fun _ => ox_icmpYes X0.here hx (pc0 := 61) (pc' := 73) rfl (hb hby d46_61) rfl (flt (by decide : ¬ ((16 : Int32) < (1 : Int32)))).2.2.2 (by decide) (by decide)) ?_
  exact own_leaf X0 (v := none) (fun _ => rfl) (BodyLoose.notSynchronized Bd) e0 (⟨rfl, N0, rfl⟩) (by decide) (by decide) (fun fs hr => X0.returnOut hx Bd.returns (hb hby d46_73) hr)
theorem rmB0_1b (l : Launch) (Z : State) (a0 : Array Value) (hw : ∀ d ∈ tables_1, d.before a0 Z = true) (ws : List Jvm.Cond) (r0 : Addr) (p3 : Int32) (kn : ClassId) (a : Int32) (b : Int32) (h0 : Heap) (n0 : Nat) (Z0 : n0 ≤ h0.size) (Vn : Arv Z h0 r0 kn .int (16 : Int32) [(.int a), (.int b), (.int (0 : Int32)), (.int (0 : Int32)), (.int (0 : Int32)), (.int (0 : Int32)), (.int (0 : Int32)), (.int (0 : Int32)), (.int (0 : Int32)), (.int (0 : Int32)), (.int (0 : Int32)), (.int (0 : Int32)), (.int (0 : Int32)), (.int (0 : Int32)), (.int (0 : Int32)), (.int (0 : Int32))] (.int 0)) (hge : ¬ a < p3) (hlt : p3 < a) : OwnC l Z mN7 (Jvm.Cond.code mN7 jdk_65_method_59_code 8 (some .int) :: ws) ({ frames := 0, cells := 0, slots := 0, locals := 0 } : Room) #[(.ref r0), (.int (0 : Int32)), (.int (1 : Int32)), (.int p3)] h0 (Q47 Z (-1 : Int32) h0 n0) := by
  refine own_body (plainFor_of_name pn47) (fun m => ef47 m r0 (0 : Int32) (1 : Int32) p3) ?_
  intro p e s m below meth c s₁ Bd hZ hml hown e0 hx hby hnm X0
  have N0 := Fr.nil n0
  refine own_fw (fun _ => ox_iloadN X0.here hx (hb hby d47_0) rfl) ?_
  refine own_fw (fun _ => ox_istore X0.here hx (hb hby d47_1) rfl (l' := #[.val (.ref r0), .val (.int (0 : Int32)), .val (.int (1 : Int32)), .val (.int p3), .val (.int (0 : Int32)), .unset, .unset, .unset]) rfl) ?_
  refine own_fw (fun _ => ox_iloadN X0.here hx (hb hby d47_3) rfl) ?_
  refine own_fw (fun _ => ox_iconst X0.here hx (hb hby d47_4)) ?_
  refine own_fw (fun _ => ox_isub X0.here hx (hb hby d47_5) rfl) ?_
  refine own_fw (fun _ => ox_istore X0.here hx (hb hby d47_6) rfl (l' := #[.val (.ref r0), .val (.int (0 : Int32)), .val (.int (1 : Int32)), .val (.int p3), .val (.int (0 : Int32)), .val (.int (0 : Int32)), .unset, .unset]) rfl) ?_
  refine own_fw (fun _ => ox_iload X0.here hx (hb hby d47_8) rfl) ?_
  refine own_fw (fun _ => ox_iload X0.here hx (hb hby d47_10) rfl) ?_
  refine own_fw (fun _ => ox_icmpNo X0.here hx (hb hby d47_12) rfl (flt (Int32.lt_irrefl : ¬ ((0 : Int32) < (0 : Int32)))).2.2.1) ?_
  refine own_fw (fun _ => ox_iload X0.here hx (hb hby d47_15) rfl) ?_
  refine own_fw (fun _ => ox_iload X0.here hx (hb hby d47_17) rfl) ?_
  refine own_fw (fun _ => ox_iadd X0.here hx (hb hby d47_19) rfl) ?_
  refine own_fw (fun _ => ox_iconst X0.here hx (hb hby d47_20)) ?_
  refine own_fw (fun _ => ox_iushr X0.here hx (hb hby d47_21) rfl) ?_
  refine own_fw (fun _ => ox_istore X0.here hx (hb hby d47_22) rfl (l' := #[.val (.ref r0), .val (.int (0 : Int32)), .val (.int (1 : Int32)), .val (.int p3), .val (.int (0 : Int32)), .val (.int (0 : Int32)), .val (.int (0 : Int32)), .unset]) rfl) ?_
  refine own_fw (fun _ => ox_aloadN X0.here hx (hb hby d47_24) rfl rfl) ?_
  refine own_fw (fun _ => ox_iload X0.here hx (hb hby d47_25) rfl) ?_
  obtain ⟨cl47_1, Ar47_1, q47_1, S47_1, Ng47_1, Hs47_1, G47_1⟩ := id Vn
  have hin47_1 : ¬ ((0 : Int32) < 0 ∨ cl47_1.slots.size ≤ ((0 : Int32)).toNatClampNeg) := inb_of S47_1 ⟨by decide, by decide⟩
  refine own_fw (A := s₁.setTop (mkF m 28 #[.val (.ref r0), .val (.int (0 : Int32)), .val (.int (1 : Int32)), .val (.int p3), .val (.int (0 : Int32)), .val (.int (0 : Int32)), .val (.int (0 : Int32)), .unset] [(.int a)])) (X0.iaload hx (j := (0 : Int32)) (v := (.int a)) (by rw [e0]; exact Ar47_1.1) (State.isArrayOf_alike hZ.alike Ar47_1.2.1) Ar47_1.2.2 hin47_1 (Has.at Hs47_1 hin47_1 rfl) (g := (mkF m 27 #[.val (.ref r0), .val (.int (0 : Int32)), .val (.int (1 : Int32)), .val (.int p3), .val (.int (0 : Int32)), .val (.int (0 : Int32)), .val (.int (0 : Int32)), .unset] [(.int (0 : Int32)), (.ref r0)])) rfl rfl (hb hby d47_27)) ?_
  refine own_fw (fun _ => ox_istore X0.here hx (hb hby d47_28) rfl (l' := #[.val (.ref r0), .val (.int (0 : Int32)), .val (.int (1 : Int32)), .val (.int p3), .val (.int (0 : Int32)), .val (.int (0 : Int32)), .val (.int (0 : Int32)), .val (.int a)]) rfl) ?_
  refine own_fw (fun _ => ox_iload X0.here hx (hb hby d47_30) rfl) ?_
  refine own_fw (fun _ => ox_iloadN X0.here hx (hb hby d47_32) rfl) ?_
  refine own_fw (fun _ => ox_icmpYes X0.here hx (pc0 := 33) (pc' := 45) rfl (hb hby d47_33) rfl (flt hge).2.1 (by decide) (by decide)) ?_
  refine own_fw (fun _ => ox_iload X0.here hx (hb hby d47_45) rfl) ?_
  refine own_fw (fun _ => ox_iloadN X0.here hx (hb hby d47_47) rfl) ?_
  refine own_fw (fun _ => ox_icmpNo X0.here hx (hb hby d47_48) rfl (tlt hlt).2.2.2) ?_
  refine own_fw (fun _ => ox_iload X0.here hx (hb hby d47_51) rfl) ?_
  refine own_fw (fun _ => ox_iconst X0.here hx (hb hby d47_53)) ?_
  refine own_fw (fun _ => ox_isub X0.here hx (hb hby d47_54) rfl) ?_
  refine own_fw (fun _ => ox_istore X0.here hx (hb hby d47_55) rfl (l' := #[.val (.ref r0), .val (.int (0 : Int32)), .val (.int (1 : Int32)), .val (.int p3), .val (.int (0 : Int32)), .val (.int (-1 : Int32)), .val (.int (0 : Int32)), .val (.int a)]) rfl) ?_
  refine own_fw (fun _ => ox_goto X0.here hx (pc0 := 57) (pc' := 63) rfl (hb hby d47_57) (by decide) (by decide)) ?_
  refine own_fw (fun _ => ox_goto X0.here hx (pc0 := 63) (pc' := 8) rfl (hb hby d47_63) (by decide) (by decide)) ?_
  refine own_fw (fun _ => ox_iload X0.here hx (hb hby d47_8) rfl) ?_
  refine own_fw (fun _ => ox_iload X0.here hx (hb hby d47_10) rfl) ?_
  refine own_fw (fun _ => ox_icmpYes X0.here hx (pc0 := 12) (pc' := 66) rfl (hb hby d47_12) rfl (tlt (by decide : ((-1 : Int32) < (0 : Int32)))).2.2.1 (by decide) (by decide)) ?_
  refine own_fw (fun _ => ox_iload X0.here hx (hb hby d47_66) rfl) ?_
  refine own_fw (fun _ => ox_iconst X0.here hx (hb hby d47_68)) ?_
  refine own_fw (fun _ => ox_iadd X0.here hx (hb hby d47_69) rfl) ?_
  refine own_fw (fun _ => ox_ineg X0.here hx (hb hby d47_70) rfl) ?_
  exact own_leaf X0 (v := some (.int (-(1 : Int32)))) (own_ret Bd.returns) (BodyLoose.notSynchronized Bd) e0 (⟨congrArg (fun z => some (Value.int z)) (by decide), N0, rfl⟩) (by decide) (by decide) (fun fs hr => retI X0 hx Bd.returns (hb hby d47_71) hr)
theorem rmBS_1b (l : Launch) (Z : State) (a0 : Array Value) (hw : ∀ d ∈ tables_1, d.before a0 Z = true) (ws : List Jvm.Cond) (r0 : Addr) (p3 : Int32) (kn : ClassId) (a : Int32) (b : Int32) (h0 : Heap) (n0 : Nat) (Z0 : n0 ≤ h0.size) (Vn : Arv Z h0 r0 kn .int (16 : Int32) [(.int a), (.int b), (.int (0 : Int32)), (.int (0 : Int32)), (.int (0 : Int32)), (.int (0 : Int32)), (.int (0 : Int32)), (.int (0 : Int32)), (.int (0 : Int32)), (.int (0 : Int32)), (.int (0 : Int32)), (.int (0 : Int32)), (.int (0 : Int32)), (.int (0 : Int32)), (.int (0 : Int32)), (.int (0 : Int32))] (.int 0)) (hge : ¬ a < p3) (hlt : p3 < a) : OwnC l Z mN8 (Jvm.Cond.code mN8 jdk_65_method_58_code 4 (some .int) :: ws) ({ frames := 1, cells := 0, slots := 0, locals := 19 } : Room) #[(.ref r0), (.int (0 : Int32)), (.int (1 : Int32)), (.int p3)] h0 (Q45 Z (-1 : Int32) h0 n0) := by
  refine own_body (plainFor_of_name pn45) (fun m => ef45 m r0 (0 : Int32) (1 : Int32) p3) ?_
  intro p e s m below meth c s₁ Bd hZ hml hown e0 hx hby hnm X0
  have N0 := Fr.nil n0
  refine own_fw (fun _ => ox_aloadN X0.here hx (hb hby d45_0) rfl rfl) ?_
  obtain ⟨cl45_1, Ar45_1, q45_1, S45_1, Ng45_1, Hs45_1, G45_1⟩ := id Vn
  have st45_1 := X0.arraylength hx (by rw [e0]; exact Ar45_1.1) (State.isArrayOf_alike hZ.alike Ar45_1.2.1) (g := (mkF m 1 #[.val (.ref r0), .val (.int (0 : Int32)), .val (.int (1 : Int32)), .val (.int p3)] [(.ref r0)])) rfl rfl (hb hby d45_1)
  rw [len_of S45_1 Ng45_1] at st45_1
  refine own_fw (A := s₁.setTop (mkF m 2 #[.val (.ref r0), .val (.int (0 : Int32)), .val (.int (1 : Int32)), .val (.int p3)] [(.int (16 : Int32))])) st45_1 ?_
  refine own_fw (fun _ => ox_iloadN X0.here hx (hb hby d45_2) rfl) ?_
  refine own_fw (fun _ => ox_iloadN X0.here hx (hb hby d45_3) rfl) ?_
  refine own_sc X0 hx hZ hown (rmRC_1 l Z a0 hw []  h0 n0 Z0 ) (own_w hw 243 rfl) (own_w hw 244 rfl) (own_w hw 245 rfl) (own_w hw 186 rfl) (by decide) hml rfl e0 (hb hby d45_4) rfl rfl (lenOf pd45_0 rfl) (W := 0) rfl (by decide) (by decide) (c' := 0) (s' := 0) rfl rfl (by decide) (by decide) ?_
  rintro _ T45_2 L45_2 X45_2 ⟨rfl, N45_2q, e45_2⟩
  have N45_2 := Fr.app N0 N45_2q
  refine own_fw (fun _ => ox_aloadN X45_2.here hx (hb hby d45_7) rfl rfl) ?_
  refine own_fw (fun _ => ox_iloadN X45_2.here hx (hb hby d45_8) rfl) ?_
  refine own_fw (fun _ => ox_iloadN X45_2.here hx (hb hby d45_9) rfl) ?_
  refine own_fw (fun _ => ox_iloadN X45_2.here hx (hb hby d45_10) rfl) ?_
  refine own_sc X45_2 hx hZ hown (rmB0_1b l Z a0 hw [] r0 p3 kn a b h0 n0 Z0 Vn hge hlt) (own_w hw 246 rfl) (own_w hw 247 rfl) (own_w hw 248 rfl) (own_w hw 186 rfl) (by decide) hml rfl e45_2 (hb hby d45_11) rfl rfl (lenOf pd45_1 rfl) (W := 0) rfl (by decide) (by decide) (c' := 0) (s' := 0) rfl rfl (by decide) (by decide) ?_
  rintro _ T45_3 L45_3 X45_3 ⟨rfl, N45_3q, e45_3⟩
  have N45_3 := Fr.app N45_2 N45_3q
  exact own_leaf X45_3 (v := some (.int (-1 : Int32))) (own_ret Bd.returns) (BodyLoose.notSynchronized Bd) e45_3 (⟨rfl, N45_3, rfl⟩) (by decide) (by decide) (fun fs hr => retI X45_3 hx Bd.returns (hb hby d45_14) hr)
theorem rmB0_1c (l : Launch) (Z : State) (a0 : Array Value) (hw : ∀ d ∈ tables_1, d.before a0 Z = true) (ws : List Jvm.Cond) (r0 : Addr) (p3 : Int32) (kn : ClassId) (a : Int32) (b : Int32) (h0 : Heap) (n0 : Nat) (Z0 : n0 ≤ h0.size) (Vn : Arv Z h0 r0 kn .int (16 : Int32) [(.int a), (.int b), (.int (0 : Int32)), (.int (0 : Int32)), (.int (0 : Int32)), (.int (0 : Int32)), (.int (0 : Int32)), (.int (0 : Int32)), (.int (0 : Int32)), (.int (0 : Int32)), (.int (0 : Int32)), (.int (0 : Int32)), (.int (0 : Int32)), (.int (0 : Int32)), (.int (0 : Int32)), (.int (0 : Int32))] (.int 0)) (hge : ¬ a < p3) (hlt : ¬ p3 < a) : OwnC l Z mN7 (Jvm.Cond.code mN7 jdk_65_method_59_code 8 (some .int) :: ws) ({ frames := 0, cells := 0, slots := 0, locals := 0 } : Room) #[(.ref r0), (.int (0 : Int32)), (.int (1 : Int32)), (.int p3)] h0 (Q47 Z (0 : Int32) h0 n0) := by
  refine own_body (plainFor_of_name pn47) (fun m => ef47 m r0 (0 : Int32) (1 : Int32) p3) ?_
  intro p e s m below meth c s₁ Bd hZ hml hown e0 hx hby hnm X0
  have N0 := Fr.nil n0
  refine own_fw (fun _ => ox_iloadN X0.here hx (hb hby d47_0) rfl) ?_
  refine own_fw (fun _ => ox_istore X0.here hx (hb hby d47_1) rfl (l' := #[.val (.ref r0), .val (.int (0 : Int32)), .val (.int (1 : Int32)), .val (.int p3), .val (.int (0 : Int32)), .unset, .unset, .unset]) rfl) ?_
  refine own_fw (fun _ => ox_iloadN X0.here hx (hb hby d47_3) rfl) ?_
  refine own_fw (fun _ => ox_iconst X0.here hx (hb hby d47_4)) ?_
  refine own_fw (fun _ => ox_isub X0.here hx (hb hby d47_5) rfl) ?_
  refine own_fw (fun _ => ox_istore X0.here hx (hb hby d47_6) rfl (l' := #[.val (.ref r0), .val (.int (0 : Int32)), .val (.int (1 : Int32)), .val (.int p3), .val (.int (0 : Int32)), .val (.int (0 : Int32)), .unset, .unset]) rfl) ?_
  refine own_fw (fun _ => ox_iload X0.here hx (hb hby d47_8) rfl) ?_
  refine own_fw (fun _ => ox_iload X0.here hx (hb hby d47_10) rfl) ?_
  refine own_fw (fun _ => ox_icmpNo X0.here hx (hb hby d47_12) rfl (flt (Int32.lt_irrefl : ¬ ((0 : Int32) < (0 : Int32)))).2.2.1) ?_
  refine own_fw (fun _ => ox_iload X0.here hx (hb hby d47_15) rfl) ?_
  refine own_fw (fun _ => ox_iload X0.here hx (hb hby d47_17) rfl) ?_
  refine own_fw (fun _ => ox_iadd X0.here hx (hb hby d47_19) rfl) ?_
  refine own_fw (fun _ => ox_iconst X0.here hx (hb hby d47_20)) ?_
  refine own_fw (fun _ => ox_iushr X0.here hx (hb hby d47_21) rfl) ?_
  refine own_fw (fun _ => ox_istore X0.here hx (hb hby d47_22) rfl (l' := #[.val (.ref r0), .val (.int (0 : Int32)), .val (.int (1 : Int32)), .val (.int p3), .val (.int (0 : Int32)), .val (.int (0 : Int32)), .val (.int (0 : Int32)), .unset]) rfl) ?_
  refine own_fw (fun _ => ox_aloadN X0.here hx (hb hby d47_24) rfl rfl) ?_
  refine own_fw (fun _ => ox_iload X0.here hx (hb hby d47_25) rfl) ?_
  obtain ⟨cl47_1, Ar47_1, q47_1, S47_1, Ng47_1, Hs47_1, G47_1⟩ := id Vn
  have hin47_1 : ¬ ((0 : Int32) < 0 ∨ cl47_1.slots.size ≤ ((0 : Int32)).toNatClampNeg) := inb_of S47_1 ⟨by decide, by decide⟩
  refine own_fw (A := s₁.setTop (mkF m 28 #[.val (.ref r0), .val (.int (0 : Int32)), .val (.int (1 : Int32)), .val (.int p3), .val (.int (0 : Int32)), .val (.int (0 : Int32)), .val (.int (0 : Int32)), .unset] [(.int a)])) (X0.iaload hx (j := (0 : Int32)) (v := (.int a)) (by rw [e0]; exact Ar47_1.1) (State.isArrayOf_alike hZ.alike Ar47_1.2.1) Ar47_1.2.2 hin47_1 (Has.at Hs47_1 hin47_1 rfl) (g := (mkF m 27 #[.val (.ref r0), .val (.int (0 : Int32)), .val (.int (1 : Int32)), .val (.int p3), .val (.int (0 : Int32)), .val (.int (0 : Int32)), .val (.int (0 : Int32)), .unset] [(.int (0 : Int32)), (.ref r0)])) rfl rfl (hb hby d47_27)) ?_
  refine own_fw (fun _ => ox_istore X0.here hx (hb hby d47_28) rfl (l' := #[.val (.ref r0), .val (.int (0 : Int32)), .val (.int (1 : Int32)), .val (.int p3), .val (.int (0 : Int32)), .val (.int (0 : Int32)), .val (.int (0 : Int32)), .val (.int a)]) rfl) ?_
  refine own_fw (fun _ => ox_iload X0.here hx (hb hby d47_30) rfl) ?_
  refine own_fw (fun _ => ox_iloadN X0.here hx (hb hby d47_32) rfl) ?_
  refine own_fw (fun _ => ox_icmpYes X0.here hx (pc0 := 33) (pc' := 45) rfl (hb hby d47_33) rfl (flt hge).2.1 (by decide) (by decide)) ?_
  refine own_fw (fun _ => ox_iload X0.here hx (hb hby d47_45) rfl) ?_
  refine own_fw (fun _ => ox_iloadN X0.here hx (hb hby d47_47) rfl) ?_
  refine own_fw (fun _ => ox_icmpYes X0.here hx (pc0 := 48) (pc' := 60) rfl (hb hby d47_48) rfl (flt hlt).2.2.2 (by decide) (by decide)) ?_
  refine own_fw (fun _ => ox_iload X0.here hx (hb hby d47_60) rfl) ?_
  exact own_leaf X0 (v := some (.int (0 : Int32))) (own_ret Bd.returns) (BodyLoose.notSynchronized Bd) e0 (⟨rfl, N0, rfl⟩) (by decide) (by decide) (fun fs hr => retI X0 hx Bd.returns (hb hby d47_62) hr)
theorem rmBS_1c (l : Launch) (Z : State) (a0 : Array Value) (hw : ∀ d ∈ tables_1, d.before a0 Z = true) (ws : List Jvm.Cond) (r0 : Addr) (p3 : Int32) (kn : ClassId) (a : Int32) (b : Int32) (h0 : Heap) (n0 : Nat) (Z0 : n0 ≤ h0.size) (Vn : Arv Z h0 r0 kn .int (16 : Int32) [(.int a), (.int b), (.int (0 : Int32)), (.int (0 : Int32)), (.int (0 : Int32)), (.int (0 : Int32)), (.int (0 : Int32)), (.int (0 : Int32)), (.int (0 : Int32)), (.int (0 : Int32)), (.int (0 : Int32)), (.int (0 : Int32)), (.int (0 : Int32)), (.int (0 : Int32)), (.int (0 : Int32)), (.int (0 : Int32))] (.int 0)) (hge : ¬ a < p3) (hlt : ¬ p3 < a) : OwnC l Z mN8 (Jvm.Cond.code mN8 jdk_65_method_58_code 4 (some .int) :: ws) ({ frames := 1, cells := 0, slots := 0, locals := 19 } : Room) #[(.ref r0), (.int (0 : Int32)), (.int (1 : Int32)), (.int p3)] h0 (Q45 Z (0 : Int32) h0 n0) := by
  refine own_body (plainFor_of_name pn45) (fun m => ef45 m r0 (0 : Int32) (1 : Int32) p3) ?_
  intro p e s m below meth c s₁ Bd hZ hml hown e0 hx hby hnm X0
  have N0 := Fr.nil n0
  refine own_fw (fun _ => ox_aloadN X0.here hx (hb hby d45_0) rfl rfl) ?_
  obtain ⟨cl45_1, Ar45_1, q45_1, S45_1, Ng45_1, Hs45_1, G45_1⟩ := id Vn
  have st45_1 := X0.arraylength hx (by rw [e0]; exact Ar45_1.1) (State.isArrayOf_alike hZ.alike Ar45_1.2.1) (g := (mkF m 1 #[.val (.ref r0), .val (.int (0 : Int32)), .val (.int (1 : Int32)), .val (.int p3)] [(.ref r0)])) rfl rfl (hb hby d45_1)
  rw [len_of S45_1 Ng45_1] at st45_1
  refine own_fw (A := s₁.setTop (mkF m 2 #[.val (.ref r0), .val (.int (0 : Int32)), .val (.int (1 : Int32)), .val (.int p3)] [(.int (16 : Int32))])) st45_1 ?_
  refine own_fw (fun _ => ox_iloadN X0.here hx (hb hby d45_2) rfl) ?_
  refine own_fw (fun _ => ox_iloadN X0.here hx (hb hby d45_3) rfl) ?_
  refine own_sc X0 hx hZ hown (rmRC_1 l Z a0 hw []  h0 n0 Z0 ) (own_w hw 243 rfl) (own_w hw 244 rfl) (own_w hw 245 rfl) (own_w hw 186 rfl) (by decide) hml rfl e0 (hb hby d45_4) rfl rfl (lenOf pd45_0 rfl) (W := 0) rfl (by decide) (by decide) (c' := 0) (s' := 0) rfl rfl (by decide) (by decide) ?_
  rintro _ T45_2 L45_2 X45_2 ⟨rfl, N45_2q, e45_2⟩
  have N45_2 := Fr.app N0 N45_2q
  refine own_fw (fun _ => ox_aloadN X45_2.here hx (hb hby d45_7) rfl rfl) ?_
  refine own_fw (fun _ => ox_iloadN X45_2.here hx (hb hby d45_8) rfl) ?_
  refine own_fw (fun _ => ox_iloadN X45_2.here hx (hb hby d45_9) rfl) ?_
  refine own_fw (fun _ => ox_iloadN X45_2.here hx (hb hby d45_10) rfl) ?_
  refine own_sc X45_2 hx hZ hown (rmB0_1c l Z a0 hw [] r0 p3 kn a b h0 n0 Z0 Vn hge hlt) (own_w hw 246 rfl) (own_w hw 247 rfl) (own_w hw 248 rfl) (own_w hw 186 rfl) (by decide) hml rfl e45_2 (hb hby d45_11) rfl rfl (lenOf pd45_1 rfl) (W := 0) rfl (by decide) (by decide) (c' := 0) (s' := 0) rfl rfl (by decide) (by decide) ?_
  rintro _ T45_3 L45_3 X45_3 ⟨rfl, N45_3q, e45_3⟩
  have N45_3 := Fr.app N45_2 N45_3q
  exact own_leaf X45_3 (v := some (.int (0 : Int32))) (own_ret Bd.returns) (BodyLoose.notSynchronized Bd) e45_3 (⟨rfl, N45_3, rfl⟩) (by decide) (by decide) (fun fs hr => retI X45_3 hx Bd.returns (hb hby d45_14) hr)
theorem rmRC_2 (l : Launch) (Z : State) (a0 : Array Value) (hw : ∀ d ∈ tables_1, d.before a0 Z = true) (ws : List Jvm.Cond)  (h0 : Heap) (n0 : Nat) (Z0 : n0 ≤ h0.size) : OwnC l Z mN26 (Jvm.Cond.code mN26 jdk_65_method_30_code 3 none :: ws) ({ frames := 0, cells := 0, slots := 0, locals := 0 } : Room) #[(.int (16 : Int32)), (.int (0 : Int32)), (.int (2 : Int32))] h0 (Q46 Z  h0 n0) := by
  refine own_body (plainFor_of_name pn46) (fun m => ef46 m (16 : Int32) (0 : Int32) (2 : Int32)) ?_
  intro p e s m below meth c s₁ Bd hZ hml hown e0 hx hby hnm X0
  have N0 := Fr.nil n0
  refine own_fw (fun _ => ox_iloadN X0.here hx (hb hby d46_0) rfl) ?_
  refine own_fw (fun _ => ox_iloadN X0.here hx (hb hby d46_1) rfl) ?_
  refine own_fw (fun _ => ox_icmpYes X0.here hx (pc0 := 2) (pc' := 46) rfl (hb hby d46_2) rfl (flt (by decide : ¬ ((2 : Int32) < (0 : Int32)))).2.2.2 (by decide) (by decide)) ?_
  refine own_fw (fun _ => ox_iloadN X0.here hx (hb hby d46_46) rfl) ?_
  refine own_fw (fun _ => ox_ifYes X0.here hx (pc0 := 47) (pc' := 59) rfl (hb hby d46_47) rfl ((if0 _ _).trans (flt (Int32.lt_irrefl : ¬ ((0 : Int32) < (0 : Int32)))).2.1) (by decide) (by decide)) ?_
  refine own_fw (fun _ => ox_iloadN X0.here hx (hb hby d46_59) rfl) ?_
  refine own_fw (fun _ => ox_iloadN X0.here hx (hb hby d46_60) rfl) ?_
  refine own_fw (fun _ => ox_icmpYes X0.here hx (pc0 := 61) (pc' := 73) rfl (hb hby d46_61) rfl (flt (by decide : ¬ ((16 : Int32) < (2 : Int32)))).2.2.2 (by decide) (by decide)) ?_
  exact own_leaf X0 (v := none) (fun _ => rfl) (BodyLoose.notSynchronized Bd) e0 (⟨rfl, N0, rfl⟩) (by decide) (by decide) (fun fs hr => X0.returnOut hx Bd.returns (hb hby d46_73) hr)
theorem rmB0_2b (l : Launch) (Z : State) (a0 : Array Value) (hw : ∀ d ∈ tables_1, d.before a0 Z = true) (ws : List Jvm.Cond) (r0 : Addr) (p3 : Int32) (kn : ClassId) (a : Int32) (b : Int32) (h0 : Heap) (n0 : Nat) (Z0 : n0 ≤ h0.size) (Vn : Arv Z h0 r0 kn .int (16 : Int32) [(.int a), (.int b), (.int (0 : Int32)), (.int (0 : Int32)), (.int (0 : Int32)), (.int (0 : Int32)), (.int (0 : Int32)), (.int (0 : Int32)), (.int (0 : Int32)), (.int (0 : Int32)), (.int (0 : Int32)), (.int (0 : Int32)), (.int (0 : Int32)), (.int (0 : Int32)), (.int (0 : Int32)), (.int (0 : Int32))] (.int 0)) (hge : ¬ a < p3) (hlt : p3 < a) : OwnC l Z mN7 (Jvm.Cond.code mN7 jdk_65_method_59_code 8 (some .int) :: ws) ({ frames := 0, cells := 0, slots := 0, locals := 0 } : Room) #[(.ref r0), (.int (0 : Int32)), (.int (2 : Int32)), (.int p3)] h0 (Q47 Z (-1 : Int32) h0 n0) := by
  refine own_body (plainFor_of_name pn47) (fun m => ef47 m r0 (0 : Int32) (2 : Int32) p3) ?_
  intro p e s m below meth c s₁ Bd hZ hml hown e0 hx hby hnm X0
  have N0 := Fr.nil n0
  refine own_fw (fun _ => ox_iloadN X0.here hx (hb hby d47_0) rfl) ?_
  refine own_fw (fun _ => ox_istore X0.here hx (hb hby d47_1) rfl (l' := #[.val (.ref r0), .val (.int (0 : Int32)), .val (.int (2 : Int32)), .val (.int p3), .val (.int (0 : Int32)), .unset, .unset, .unset]) rfl) ?_
  refine own_fw (fun _ => ox_iloadN X0.here hx (hb hby d47_3) rfl) ?_
  refine own_fw (fun _ => ox_iconst X0.here hx (hb hby d47_4)) ?_
  refine own_fw (fun _ => ox_isub X0.here hx (hb hby d47_5) rfl) ?_
  refine own_fw (fun _ => ox_istore X0.here hx (hb hby d47_6) rfl (l' := #[.val (.ref r0), .val (.int (0 : Int32)), .val (.int (2 : Int32)), .val (.int p3), .val (.int (0 : Int32)), .val (.int (1 : Int32)), .unset, .unset]) rfl) ?_
  refine own_fw (fun _ => ox_iload X0.here hx (hb hby d47_8) rfl) ?_
  refine own_fw (fun _ => ox_iload X0.here hx (hb hby d47_10) rfl) ?_
  refine own_fw (fun _ => ox_icmpNo X0.here hx (hb hby d47_12) rfl (flt (by decide : ¬ ((1 : Int32) < (0 : Int32)))).2.2.1) ?_
  refine own_fw (fun _ => ox_iload X0.here hx (hb hby d47_15) rfl) ?_
  refine own_fw (fun _ => ox_iload X0.here hx (hb hby d47_17) rfl) ?_
  refine own_fw (fun _ => ox_iadd X0.here hx (hb hby d47_19) rfl) ?_
  refine own_fw (fun _ => ox_iconst X0.here hx (hb hby d47_20)) ?_
  refine own_fw (fun _ => ox_iushr X0.here hx (hb hby d47_21) rfl) ?_
  refine own_fw (fun _ => ox_istore X0.here hx (hb hby d47_22) rfl (l' := #[.val (.ref r0), .val (.int (0 : Int32)), .val (.int (2 : Int32)), .val (.int p3), .val (.int (0 : Int32)), .val (.int (1 : Int32)), .val (.int (0 : Int32)), .unset]) rfl) ?_
  refine own_fw (fun _ => ox_aloadN X0.here hx (hb hby d47_24) rfl rfl) ?_
  refine own_fw (fun _ => ox_iload X0.here hx (hb hby d47_25) rfl) ?_
  obtain ⟨cl47_1, Ar47_1, q47_1, S47_1, Ng47_1, Hs47_1, G47_1⟩ := id Vn
  have hin47_1 : ¬ ((0 : Int32) < 0 ∨ cl47_1.slots.size ≤ ((0 : Int32)).toNatClampNeg) := inb_of S47_1 ⟨by decide, by decide⟩
  refine own_fw (A := s₁.setTop (mkF m 28 #[.val (.ref r0), .val (.int (0 : Int32)), .val (.int (2 : Int32)), .val (.int p3), .val (.int (0 : Int32)), .val (.int (1 : Int32)), .val (.int (0 : Int32)), .unset] [(.int a)])) (X0.iaload hx (j := (0 : Int32)) (v := (.int a)) (by rw [e0]; exact Ar47_1.1) (State.isArrayOf_alike hZ.alike Ar47_1.2.1) Ar47_1.2.2 hin47_1 (Has.at Hs47_1 hin47_1 rfl) (g := (mkF m 27 #[.val (.ref r0), .val (.int (0 : Int32)), .val (.int (2 : Int32)), .val (.int p3), .val (.int (0 : Int32)), .val (.int (1 : Int32)), .val (.int (0 : Int32)), .unset] [(.int (0 : Int32)), (.ref r0)])) rfl rfl (hb hby d47_27)) ?_
  refine own_fw (fun _ => ox_istore X0.here hx (hb hby d47_28) rfl (l' := #[.val (.ref r0), .val (.int (0 : Int32)), .val (.int (2 : Int32)), .val (.int p3), .val (.int (0 : Int32)), .val (.int (1 : Int32)), .val (.int (0 : Int32)), .val (.int a)]) rfl) ?_
  refine own_fw (fun _ => ox_iload X0.here hx (hb hby d47_30) rfl) ?_
  refine own_fw (fun _ => ox_iloadN X0.here hx (hb hby d47_32) rfl) ?_
  refine own_fw (fun _ => ox_icmpYes X0.here hx (pc0 := 33) (pc' := 45) rfl (hb hby d47_33) rfl (flt hge).2.1 (by decide) (by decide)) ?_
  refine own_fw (fun _ => ox_iload X0.here hx (hb hby d47_45) rfl) ?_
  refine own_fw (fun _ => ox_iloadN X0.here hx (hb hby d47_47) rfl) ?_
  refine own_fw (fun _ => ox_icmpNo X0.here hx (hb hby d47_48) rfl (tlt hlt).2.2.2) ?_
  refine own_fw (fun _ => ox_iload X0.here hx (hb hby d47_51) rfl) ?_
  refine own_fw (fun _ => ox_iconst X0.here hx (hb hby d47_53)) ?_
  refine own_fw (fun _ => ox_isub X0.here hx (hb hby d47_54) rfl) ?_
  refine own_fw (fun _ => ox_istore X0.here hx (hb hby d47_55) rfl (l' := #[.val (.ref r0), .val (.int (0 : Int32)), .val (.int (2 : Int32)), .val (.int p3), .val (.int (0 : Int32)), .val (.int (-1 : Int32)), .val (.int (0 : Int32)), .val (.int a)]) rfl) ?_
  refine own_fw (fun _ => ox_goto X0.here hx (pc0 := 57) (pc' := 63) rfl (hb hby d47_57) (by decide) (by decide)) ?_
  refine own_fw (fun _ => ox_goto X0.here hx (pc0 := 63) (pc' := 8) rfl (hb hby d47_63) (by decide) (by decide)) ?_
  refine own_fw (fun _ => ox_iload X0.here hx (hb hby d47_8) rfl) ?_
  refine own_fw (fun _ => ox_iload X0.here hx (hb hby d47_10) rfl) ?_
  refine own_fw (fun _ => ox_icmpYes X0.here hx (pc0 := 12) (pc' := 66) rfl (hb hby d47_12) rfl (tlt (by decide : ((-1 : Int32) < (0 : Int32)))).2.2.1 (by decide) (by decide)) ?_
  refine own_fw (fun _ => ox_iload X0.here hx (hb hby d47_66) rfl) ?_
  refine own_fw (fun _ => ox_iconst X0.here hx (hb hby d47_68)) ?_
  refine own_fw (fun _ => ox_iadd X0.here hx (hb hby d47_69) rfl) ?_
  refine own_fw (fun _ => ox_ineg X0.here hx (hb hby d47_70) rfl) ?_
  exact own_leaf X0 (v := some (.int (-(1 : Int32)))) (own_ret Bd.returns) (BodyLoose.notSynchronized Bd) e0 (⟨congrArg (fun z => some (Value.int z)) (by decide), N0, rfl⟩) (by decide) (by decide) (fun fs hr => retI X0 hx Bd.returns (hb hby d47_71) hr)
theorem rmBS_2b (l : Launch) (Z : State) (a0 : Array Value) (hw : ∀ d ∈ tables_1, d.before a0 Z = true) (ws : List Jvm.Cond) (r0 : Addr) (p3 : Int32) (kn : ClassId) (a : Int32) (b : Int32) (h0 : Heap) (n0 : Nat) (Z0 : n0 ≤ h0.size) (Vn : Arv Z h0 r0 kn .int (16 : Int32) [(.int a), (.int b), (.int (0 : Int32)), (.int (0 : Int32)), (.int (0 : Int32)), (.int (0 : Int32)), (.int (0 : Int32)), (.int (0 : Int32)), (.int (0 : Int32)), (.int (0 : Int32)), (.int (0 : Int32)), (.int (0 : Int32)), (.int (0 : Int32)), (.int (0 : Int32)), (.int (0 : Int32)), (.int (0 : Int32))] (.int 0)) (hge : ¬ a < p3) (hlt : p3 < a) : OwnC l Z mN8 (Jvm.Cond.code mN8 jdk_65_method_58_code 4 (some .int) :: ws) ({ frames := 1, cells := 0, slots := 0, locals := 19 } : Room) #[(.ref r0), (.int (0 : Int32)), (.int (2 : Int32)), (.int p3)] h0 (Q45 Z (-1 : Int32) h0 n0) := by
  refine own_body (plainFor_of_name pn45) (fun m => ef45 m r0 (0 : Int32) (2 : Int32) p3) ?_
  intro p e s m below meth c s₁ Bd hZ hml hown e0 hx hby hnm X0
  have N0 := Fr.nil n0
  refine own_fw (fun _ => ox_aloadN X0.here hx (hb hby d45_0) rfl rfl) ?_
  obtain ⟨cl45_1, Ar45_1, q45_1, S45_1, Ng45_1, Hs45_1, G45_1⟩ := id Vn
  have st45_1 := X0.arraylength hx (by rw [e0]; exact Ar45_1.1) (State.isArrayOf_alike hZ.alike Ar45_1.2.1) (g := (mkF m 1 #[.val (.ref r0), .val (.int (0 : Int32)), .val (.int (2 : Int32)), .val (.int p3)] [(.ref r0)])) rfl rfl (hb hby d45_1)
  rw [len_of S45_1 Ng45_1] at st45_1
  refine own_fw (A := s₁.setTop (mkF m 2 #[.val (.ref r0), .val (.int (0 : Int32)), .val (.int (2 : Int32)), .val (.int p3)] [(.int (16 : Int32))])) st45_1 ?_
  refine own_fw (fun _ => ox_iloadN X0.here hx (hb hby d45_2) rfl) ?_
  refine own_fw (fun _ => ox_iloadN X0.here hx (hb hby d45_3) rfl) ?_
  refine own_sc X0 hx hZ hown (rmRC_2 l Z a0 hw []  h0 n0 Z0 ) (own_w hw 243 rfl) (own_w hw 244 rfl) (own_w hw 245 rfl) (own_w hw 186 rfl) (by decide) hml rfl e0 (hb hby d45_4) rfl rfl (lenOf pd45_0 rfl) (W := 0) rfl (by decide) (by decide) (c' := 0) (s' := 0) rfl rfl (by decide) (by decide) ?_
  rintro _ T45_2 L45_2 X45_2 ⟨rfl, N45_2q, e45_2⟩
  have N45_2 := Fr.app N0 N45_2q
  refine own_fw (fun _ => ox_aloadN X45_2.here hx (hb hby d45_7) rfl rfl) ?_
  refine own_fw (fun _ => ox_iloadN X45_2.here hx (hb hby d45_8) rfl) ?_
  refine own_fw (fun _ => ox_iloadN X45_2.here hx (hb hby d45_9) rfl) ?_
  refine own_fw (fun _ => ox_iloadN X45_2.here hx (hb hby d45_10) rfl) ?_
  refine own_sc X45_2 hx hZ hown (rmB0_2b l Z a0 hw [] r0 p3 kn a b h0 n0 Z0 Vn hge hlt) (own_w hw 246 rfl) (own_w hw 247 rfl) (own_w hw 248 rfl) (own_w hw 186 rfl) (by decide) hml rfl e45_2 (hb hby d45_11) rfl rfl (lenOf pd45_1 rfl) (W := 0) rfl (by decide) (by decide) (c' := 0) (s' := 0) rfl rfl (by decide) (by decide) ?_
  rintro _ T45_3 L45_3 X45_3 ⟨rfl, N45_3q, e45_3⟩
  have N45_3 := Fr.app N45_2 N45_3q
  exact own_leaf X45_3 (v := some (.int (-1 : Int32))) (own_ret Bd.returns) (BodyLoose.notSynchronized Bd) e45_3 (⟨rfl, N45_3, rfl⟩) (by decide) (by decide) (fun fs hr => retI X45_3 hx Bd.returns (hb hby d45_14) hr)
theorem rmB0_2c (l : Launch) (Z : State) (a0 : Array Value) (hw : ∀ d ∈ tables_1, d.before a0 Z = true) (ws : List Jvm.Cond) (r0 : Addr) (p3 : Int32) (kn : ClassId) (a : Int32) (b : Int32) (h0 : Heap) (n0 : Nat) (Z0 : n0 ≤ h0.size) (Vn : Arv Z h0 r0 kn .int (16 : Int32) [(.int a), (.int b), (.int (0 : Int32)), (.int (0 : Int32)), (.int (0 : Int32)), (.int (0 : Int32)), (.int (0 : Int32)), (.int (0 : Int32)), (.int (0 : Int32)), (.int (0 : Int32)), (.int (0 : Int32)), (.int (0 : Int32)), (.int (0 : Int32)), (.int (0 : Int32)), (.int (0 : Int32)), (.int (0 : Int32))] (.int 0)) (hge : ¬ a < p3) (hlt : ¬ p3 < a) : OwnC l Z mN7 (Jvm.Cond.code mN7 jdk_65_method_59_code 8 (some .int) :: ws) ({ frames := 0, cells := 0, slots := 0, locals := 0 } : Room) #[(.ref r0), (.int (0 : Int32)), (.int (2 : Int32)), (.int p3)] h0 (Q47 Z (0 : Int32) h0 n0) := by
  refine own_body (plainFor_of_name pn47) (fun m => ef47 m r0 (0 : Int32) (2 : Int32) p3) ?_
  intro p e s m below meth c s₁ Bd hZ hml hown e0 hx hby hnm X0
  have N0 := Fr.nil n0
  refine own_fw (fun _ => ox_iloadN X0.here hx (hb hby d47_0) rfl) ?_
  refine own_fw (fun _ => ox_istore X0.here hx (hb hby d47_1) rfl (l' := #[.val (.ref r0), .val (.int (0 : Int32)), .val (.int (2 : Int32)), .val (.int p3), .val (.int (0 : Int32)), .unset, .unset, .unset]) rfl) ?_
  refine own_fw (fun _ => ox_iloadN X0.here hx (hb hby d47_3) rfl) ?_
  refine own_fw (fun _ => ox_iconst X0.here hx (hb hby d47_4)) ?_
  refine own_fw (fun _ => ox_isub X0.here hx (hb hby d47_5) rfl) ?_
  refine own_fw (fun _ => ox_istore X0.here hx (hb hby d47_6) rfl (l' := #[.val (.ref r0), .val (.int (0 : Int32)), .val (.int (2 : Int32)), .val (.int p3), .val (.int (0 : Int32)), .val (.int (1 : Int32)), .unset, .unset]) rfl) ?_
  refine own_fw (fun _ => ox_iload X0.here hx (hb hby d47_8) rfl) ?_
  refine own_fw (fun _ => ox_iload X0.here hx (hb hby d47_10) rfl) ?_
  refine own_fw (fun _ => ox_icmpNo X0.here hx (hb hby d47_12) rfl (flt (by decide : ¬ ((1 : Int32) < (0 : Int32)))).2.2.1) ?_
  refine own_fw (fun _ => ox_iload X0.here hx (hb hby d47_15) rfl) ?_
  refine own_fw (fun _ => ox_iload X0.here hx (hb hby d47_17) rfl) ?_
  refine own_fw (fun _ => ox_iadd X0.here hx (hb hby d47_19) rfl) ?_
  refine own_fw (fun _ => ox_iconst X0.here hx (hb hby d47_20)) ?_
  refine own_fw (fun _ => ox_iushr X0.here hx (hb hby d47_21) rfl) ?_
  refine own_fw (fun _ => ox_istore X0.here hx (hb hby d47_22) rfl (l' := #[.val (.ref r0), .val (.int (0 : Int32)), .val (.int (2 : Int32)), .val (.int p3), .val (.int (0 : Int32)), .val (.int (1 : Int32)), .val (.int (0 : Int32)), .unset]) rfl) ?_
  refine own_fw (fun _ => ox_aloadN X0.here hx (hb hby d47_24) rfl rfl) ?_
  refine own_fw (fun _ => ox_iload X0.here hx (hb hby d47_25) rfl) ?_
  obtain ⟨cl47_1, Ar47_1, q47_1, S47_1, Ng47_1, Hs47_1, G47_1⟩ := id Vn
  have hin47_1 : ¬ ((0 : Int32) < 0 ∨ cl47_1.slots.size ≤ ((0 : Int32)).toNatClampNeg) := inb_of S47_1 ⟨by decide, by decide⟩
  refine own_fw (A := s₁.setTop (mkF m 28 #[.val (.ref r0), .val (.int (0 : Int32)), .val (.int (2 : Int32)), .val (.int p3), .val (.int (0 : Int32)), .val (.int (1 : Int32)), .val (.int (0 : Int32)), .unset] [(.int a)])) (X0.iaload hx (j := (0 : Int32)) (v := (.int a)) (by rw [e0]; exact Ar47_1.1) (State.isArrayOf_alike hZ.alike Ar47_1.2.1) Ar47_1.2.2 hin47_1 (Has.at Hs47_1 hin47_1 rfl) (g := (mkF m 27 #[.val (.ref r0), .val (.int (0 : Int32)), .val (.int (2 : Int32)), .val (.int p3), .val (.int (0 : Int32)), .val (.int (1 : Int32)), .val (.int (0 : Int32)), .unset] [(.int (0 : Int32)), (.ref r0)])) rfl rfl (hb hby d47_27)) ?_
  refine own_fw (fun _ => ox_istore X0.here hx (hb hby d47_28) rfl (l' := #[.val (.ref r0), .val (.int (0 : Int32)), .val (.int (2 : Int32)), .val (.int p3), .val (.int (0 : Int32)), .val (.int (1 : Int32)), .val (.int (0 : Int32)), .val (.int a)]) rfl) ?_
  refine own_fw (fun _ => ox_iload X0.here hx (hb hby d47_30) rfl) ?_
  refine own_fw (fun _ => ox_iloadN X0.here hx (hb hby d47_32) rfl) ?_
  refine own_fw (fun _ => ox_icmpYes X0.here hx (pc0 := 33) (pc' := 45) rfl (hb hby d47_33) rfl (flt hge).2.1 (by decide) (by decide)) ?_
  refine own_fw (fun _ => ox_iload X0.here hx (hb hby d47_45) rfl) ?_
  refine own_fw (fun _ => ox_iloadN X0.here hx (hb hby d47_47) rfl) ?_
  refine own_fw (fun _ => ox_icmpYes X0.here hx (pc0 := 48) (pc' := 60) rfl (hb hby d47_48) rfl (flt hlt).2.2.2 (by decide) (by decide)) ?_
  refine own_fw (fun _ => ox_iload X0.here hx (hb hby d47_60) rfl) ?_
  exact own_leaf X0 (v := some (.int (0 : Int32))) (own_ret Bd.returns) (BodyLoose.notSynchronized Bd) e0 (⟨rfl, N0, rfl⟩) (by decide) (by decide) (fun fs hr => retI X0 hx Bd.returns (hb hby d47_62) hr)
theorem rmBS_2c (l : Launch) (Z : State) (a0 : Array Value) (hw : ∀ d ∈ tables_1, d.before a0 Z = true) (ws : List Jvm.Cond) (r0 : Addr) (p3 : Int32) (kn : ClassId) (a : Int32) (b : Int32) (h0 : Heap) (n0 : Nat) (Z0 : n0 ≤ h0.size) (Vn : Arv Z h0 r0 kn .int (16 : Int32) [(.int a), (.int b), (.int (0 : Int32)), (.int (0 : Int32)), (.int (0 : Int32)), (.int (0 : Int32)), (.int (0 : Int32)), (.int (0 : Int32)), (.int (0 : Int32)), (.int (0 : Int32)), (.int (0 : Int32)), (.int (0 : Int32)), (.int (0 : Int32)), (.int (0 : Int32)), (.int (0 : Int32)), (.int (0 : Int32))] (.int 0)) (hge : ¬ a < p3) (hlt : ¬ p3 < a) : OwnC l Z mN8 (Jvm.Cond.code mN8 jdk_65_method_58_code 4 (some .int) :: ws) ({ frames := 1, cells := 0, slots := 0, locals := 19 } : Room) #[(.ref r0), (.int (0 : Int32)), (.int (2 : Int32)), (.int p3)] h0 (Q45 Z (0 : Int32) h0 n0) := by
  refine own_body (plainFor_of_name pn45) (fun m => ef45 m r0 (0 : Int32) (2 : Int32) p3) ?_
  intro p e s m below meth c s₁ Bd hZ hml hown e0 hx hby hnm X0
  have N0 := Fr.nil n0
  refine own_fw (fun _ => ox_aloadN X0.here hx (hb hby d45_0) rfl rfl) ?_
  obtain ⟨cl45_1, Ar45_1, q45_1, S45_1, Ng45_1, Hs45_1, G45_1⟩ := id Vn
  have st45_1 := X0.arraylength hx (by rw [e0]; exact Ar45_1.1) (State.isArrayOf_alike hZ.alike Ar45_1.2.1) (g := (mkF m 1 #[.val (.ref r0), .val (.int (0 : Int32)), .val (.int (2 : Int32)), .val (.int p3)] [(.ref r0)])) rfl rfl (hb hby d45_1)
  rw [len_of S45_1 Ng45_1] at st45_1
  refine own_fw (A := s₁.setTop (mkF m 2 #[.val (.ref r0), .val (.int (0 : Int32)), .val (.int (2 : Int32)), .val (.int p3)] [(.int (16 : Int32))])) st45_1 ?_
  refine own_fw (fun _ => ox_iloadN X0.here hx (hb hby d45_2) rfl) ?_
  refine own_fw (fun _ => ox_iloadN X0.here hx (hb hby d45_3) rfl) ?_
  refine own_sc X0 hx hZ hown (rmRC_2 l Z a0 hw []  h0 n0 Z0 ) (own_w hw 243 rfl) (own_w hw 244 rfl) (own_w hw 245 rfl) (own_w hw 186 rfl) (by decide) hml rfl e0 (hb hby d45_4) rfl rfl (lenOf pd45_0 rfl) (W := 0) rfl (by decide) (by decide) (c' := 0) (s' := 0) rfl rfl (by decide) (by decide) ?_
  rintro _ T45_2 L45_2 X45_2 ⟨rfl, N45_2q, e45_2⟩
  have N45_2 := Fr.app N0 N45_2q
  refine own_fw (fun _ => ox_aloadN X45_2.here hx (hb hby d45_7) rfl rfl) ?_
  refine own_fw (fun _ => ox_iloadN X45_2.here hx (hb hby d45_8) rfl) ?_
  refine own_fw (fun _ => ox_iloadN X45_2.here hx (hb hby d45_9) rfl) ?_
  refine own_fw (fun _ => ox_iloadN X45_2.here hx (hb hby d45_10) rfl) ?_
  refine own_sc X45_2 hx hZ hown (rmB0_2c l Z a0 hw [] r0 p3 kn a b h0 n0 Z0 Vn hge hlt) (own_w hw 246 rfl) (own_w hw 247 rfl) (own_w hw 248 rfl) (own_w hw 186 rfl) (by decide) hml rfl e45_2 (hb hby d45_11) rfl rfl (lenOf pd45_1 rfl) (W := 0) rfl (by decide) (by decide) (c' := 0) (s' := 0) rfl rfl (by decide) (by decide) ?_
  rintro _ T45_3 L45_3 X45_3 ⟨rfl, N45_3q, e45_3⟩
  have N45_3 := Fr.app N45_2 N45_3q
  exact own_leaf X45_3 (v := some (.int (0 : Int32))) (own_ret Bd.returns) (BodyLoose.notSynchronized Bd) e45_3 (⟨rfl, N45_3, rfl⟩) (by decide) (by decide) (fun fs hr => retI X45_3 hx Bd.returns (hb hby d45_14) hr)
theorem rmPL_0 (l : Launch) (Z : State) (a0 : Array Value) (hw : ∀ d ∈ tables_1, d.before a0 Z = true) (ws : List Jvm.Cond) (r0 : Addr) (p1 : Int32) (na : Addr) (kn : ClassId) (a : Int32) (b : Int32) (h0 : Heap) (n0 : Nat) (Z0 : n0 ≤ h0.size) (Fs : Fld Z h0 r0 "com/example/copperline/copperline/Program" "size" "I" (.int (0 : Int32))) (Fn : Fld Z h0 r0 "com/example/copperline/copperline/Program" "numbers" "[I" (.ref na)) (Vn : Arv Z h0 na kn .int (16 : Int32) [(.int a), (.int b), (.int (0 : Int32)), (.int (0 : Int32)), (.int (0 : Int32)), (.int (0 : Int32)), (.int (0 : Int32)), (.int (0 : Int32)), (.int (0 : Int32)), (.int (0 : Int32)), (.int (0 : Int32)), (.int (0 : Int32)), (.int (0 : Int32)), (.int (0 : Int32)), (.int (0 : Int32)), (.int (0 : Int32))] (.int 0)) : OwnC l Z mN1 (Jvm.Cond.code mN1 prog_49_method_13_code 4 (some .int) :: ws) ({ frames := 2, cells := 0, slots := 0, locals := 60 } : Room) #[(.ref r0), (.int p1)] h0 (Q38 Z (0 : Int32) h0 n0) := by
  refine own_body (plainFor_of_name pn38) (fun m => ef38 m r0 p1) ?_
  intro p e s m below meth c s₁ Bd hZ hml hown e0 hx hby hnm X0
  have N0 := Fr.nil n0
  refine own_fw (fun _ => ox_aloadN X0.here hx (hb hby d38_0) rfl rfl) ?_
  refine own_gf X0 hx hZ hown (own_w hw 56 rfl) Via.refl e0 Fs (hb hby d38_1) rfl fun T38_1 X38_1 e38_1 => ?_
  refine own_fw (fun _ => ox_ifYes X38_1.here hx (pc0 := 4) (pc' := 22) rfl (hb hby d38_4) rfl ((if0 _ _).trans (teq (rfl : (0 : Int32) = (0 : Int32))).1) (by decide) (by decide)) ?_
  refine own_fw (fun _ => ox_aloadN X38_1.here hx (hb hby d38_22) rfl rfl) ?_
  refine own_gf X38_1 hx hZ hown (own_w hw 56 rfl) Via.refl e38_1 Fs (hb hby d38_23) rfl fun T38_2 X38_2 e38_2 => ?_
  refine own_fw (fun _ => ox_istoreN X38_2.here hx (hb hby d38_26) rfl (l' := #[.val (.ref r0), .val (.int p1), .val (.int (0 : Int32)), .unset]) rfl) ?_
  refine own_fw (fun _ => ox_goto X38_2.here hx (pc0 := 27) (pc' := 57) rfl (hb hby d38_27) (by decide) (by decide)) ?_
  refine own_fw (fun _ => ox_iloadN X38_2.here hx (hb hby d38_57) rfl) ?_
  exact own_leaf X38_2 (v := some (.int (0 : Int32))) (own_ret Bd.returns) (BodyLoose.notSynchronized Bd) e38_2 (⟨congrArg (fun z => some (Value.int z)) (by decide), N0, rfl⟩) (by decide) (by decide) (fun fs hr => retI X38_2 hx Bd.returns (hb hby d38_58) hr)
theorem rmPL_1a (l : Launch) (Z : State) (a0 : Array Value) (hw : ∀ d ∈ tables_1, d.before a0 Z = true) (ws : List Jvm.Cond) (r0 : Addr) (p1 : Int32) (na : Addr) (kn : ClassId) (a : Int32) (b : Int32) (h0 : Heap) (n0 : Nat) (Z0 : n0 ≤ h0.size) (Fs : Fld Z h0 r0 "com/example/copperline/copperline/Program" "size" "I" (.int (1 : Int32))) (Fn : Fld Z h0 r0 "com/example/copperline/copperline/Program" "numbers" "[I" (.ref na)) (Vn : Arv Z h0 na kn .int (16 : Int32) [(.int a), (.int b), (.int (0 : Int32)), (.int (0 : Int32)), (.int (0 : Int32)), (.int (0 : Int32)), (.int (0 : Int32)), (.int (0 : Int32)), (.int (0 : Int32)), (.int (0 : Int32)), (.int (0 : Int32)), (.int (0 : Int32)), (.int (0 : Int32)), (.int (0 : Int32)), (.int (0 : Int32)), (.int (0 : Int32))] (.int 0)) (hlt : a < p1) : OwnC l Z mN1 (Jvm.Cond.code mN1 prog_49_method_13_code 4 (some .int) :: ws) ({ frames := 2, cells := 0, slots := 0, locals := 60 } : Room) #[(.ref r0), (.int p1)] h0 (Q38 Z (1 : Int32) h0 n0) := by
  refine own_body (plainFor_of_name pn38) (fun m => ef38 m r0 p1) ?_
  intro p e s m below meth c s₁ Bd hZ hml hown e0 hx hby hnm X0
  have N0 := Fr.nil n0
  refine own_fw (fun _ => ox_aloadN X0.here hx (hb hby d38_0) rfl rfl) ?_
  refine own_gf X0 hx hZ hown (own_w hw 56 rfl) Via.refl e0 Fs (hb hby d38_1) rfl fun T38_1 X38_1 e38_1 => ?_
  refine own_fw (fun _ => ox_ifNo X38_1.here hx (hb hby d38_4) rfl ((if0 _ _).trans (feq (by decide : ¬ ((1 : Int32) = (0 : Int32)))).1)) ?_
  refine own_fw (fun _ => ox_iloadN X38_1.here hx (hb hby d38_7) rfl) ?_
  refine own_fw (fun _ => ox_aloadN X38_1.here hx (hb hby d38_8) rfl rfl) ?_
  refine own_gf X38_1 hx hZ hown (own_w hw 10 rfl) Via.refl e38_1 Fn (hb hby d38_9) rfl fun T38_2 X38_2 e38_2 => ?_
  refine own_fw (fun _ => ox_aloadN X38_2.here hx (hb hby d38_12) rfl rfl) ?_
  refine own_gf X38_2 hx hZ hown (own_w hw 56 rfl) Via.refl e38_2 Fs (hb hby d38_13) rfl fun T38_3 X38_3 e38_3 => ?_
  refine own_fw (fun _ => ox_iconst X38_3.here hx (hb hby d38_16)) ?_
  refine own_fw (fun _ => ox_isub X38_3.here hx (hb hby d38_17) rfl) ?_
  obtain ⟨cl38_4, Ar38_4, q38_4, S38_4, Ng38_4, Hs38_4, G38_4⟩ := id Vn
  have hin38_4 : ¬ ((0 : Int32) < 0 ∨ cl38_4.slots.size ≤ ((0 : Int32)).toNatClampNeg) := inb_of S38_4 ⟨by decide, by decide⟩
  refine own_fw (A := T38_3.setTop (mkF m 19 #[.val (.ref r0), .val (.int p1), .unset, .unset] [(.int a), (.int p1)])) (X38_3.iaload hx (j := (0 : Int32)) (v := (.int a)) (by rw [e38_3]; exact Ar38_4.1) (State.isArrayOf_alike hZ.alike Ar38_4.2.1) Ar38_4.2.2 hin38_4 (Has.at Hs38_4 hin38_4 rfl) (g := (mkF m 18 #[.val (.ref r0), .val (.int p1), .unset, .unset] [(.int (0 : Int32)), (.ref na), (.int p1)])) rfl rfl (hb hby d38_18)) ?_
  refine own_fw (fun _ => ox_icmpNo X38_3.here hx (hb hby d38_19) rfl (tlt hlt).2.2.2) ?_
  refine own_fw (fun _ => ox_aloadN X38_3.here hx (hb hby d38_22) rfl rfl) ?_
  refine own_gf X38_3 hx hZ hown (own_w hw 56 rfl) Via.refl e38_3 Fs (hb hby d38_23) rfl fun T38_5 X38_5 e38_5 => ?_
  refine own_fw (fun _ => ox_istoreN X38_5.here hx (hb hby d38_26) rfl (l' := #[.val (.ref r0), .val (.int p1), .val (.int (1 : Int32)), .unset]) rfl) ?_
  refine own_fw (fun _ => ox_goto X38_5.here hx (pc0 := 27) (pc' := 57) rfl (hb hby d38_27) (by decide) (by decide)) ?_
  refine own_fw (fun _ => ox_iloadN X38_5.here hx (hb hby d38_57) rfl) ?_
  exact own_leaf X38_5 (v := some (.int (1 : Int32))) (own_ret Bd.returns) (BodyLoose.notSynchronized Bd) e38_5 (⟨congrArg (fun z => some (Value.int z)) (by decide), N0, rfl⟩) (by decide) (by decide) (fun fs hr => retI X38_5 hx Bd.returns (hb hby d38_58) hr)
theorem rmPL_1b (l : Launch) (Z : State) (a0 : Array Value) (hw : ∀ d ∈ tables_1, d.before a0 Z = true) (ws : List Jvm.Cond) (r0 : Addr) (p1 : Int32) (na : Addr) (kn : ClassId) (a : Int32) (b : Int32) (h0 : Heap) (n0 : Nat) (Z0 : n0 ≤ h0.size) (Fs : Fld Z h0 r0 "com/example/copperline/copperline/Program" "size" "I" (.int (1 : Int32))) (Fn : Fld Z h0 r0 "com/example/copperline/copperline/Program" "numbers" "[I" (.ref na)) (Vn : Arv Z h0 na kn .int (16 : Int32) [(.int a), (.int b), (.int (0 : Int32)), (.int (0 : Int32)), (.int (0 : Int32)), (.int (0 : Int32)), (.int (0 : Int32)), (.int (0 : Int32)), (.int (0 : Int32)), (.int (0 : Int32)), (.int (0 : Int32)), (.int (0 : Int32)), (.int (0 : Int32)), (.int (0 : Int32)), (.int (0 : Int32)), (.int (0 : Int32))] (.int 0)) (hge : ¬ a < p1) (hlt : p1 < a) : OwnC l Z mN1 (Jvm.Cond.code mN1 prog_49_method_13_code 4 (some .int) :: ws) ({ frames := 2, cells := 0, slots := 0, locals := 60 } : Room) #[(.ref r0), (.int p1)] h0 (Q38 Z (0 : Int32) h0 n0) := by
  refine own_body (plainFor_of_name pn38) (fun m => ef38 m r0 p1) ?_
  intro p e s m below meth c s₁ Bd hZ hml hown e0 hx hby hnm X0
  have N0 := Fr.nil n0
  refine own_fw (fun _ => ox_aloadN X0.here hx (hb hby d38_0) rfl rfl) ?_
  refine own_gf X0 hx hZ hown (own_w hw 56 rfl) Via.refl e0 Fs (hb hby d38_1) rfl fun T38_1 X38_1 e38_1 => ?_
  refine own_fw (fun _ => ox_ifNo X38_1.here hx (hb hby d38_4) rfl ((if0 _ _).trans (feq (by decide : ¬ ((1 : Int32) = (0 : Int32)))).1)) ?_
  refine own_fw (fun _ => ox_iloadN X38_1.here hx (hb hby d38_7) rfl) ?_
  refine own_fw (fun _ => ox_aloadN X38_1.here hx (hb hby d38_8) rfl rfl) ?_
  refine own_gf X38_1 hx hZ hown (own_w hw 10 rfl) Via.refl e38_1 Fn (hb hby d38_9) rfl fun T38_2 X38_2 e38_2 => ?_
  refine own_fw (fun _ => ox_aloadN X38_2.here hx (hb hby d38_12) rfl rfl) ?_
  refine own_gf X38_2 hx hZ hown (own_w hw 56 rfl) Via.refl e38_2 Fs (hb hby d38_13) rfl fun T38_3 X38_3 e38_3 => ?_
  refine own_fw (fun _ => ox_iconst X38_3.here hx (hb hby d38_16)) ?_
  refine own_fw (fun _ => ox_isub X38_3.here hx (hb hby d38_17) rfl) ?_
  obtain ⟨cl38_4, Ar38_4, q38_4, S38_4, Ng38_4, Hs38_4, G38_4⟩ := id Vn
  have hin38_4 : ¬ ((0 : Int32) < 0 ∨ cl38_4.slots.size ≤ ((0 : Int32)).toNatClampNeg) := inb_of S38_4 ⟨by decide, by decide⟩
  refine own_fw (A := T38_3.setTop (mkF m 19 #[.val (.ref r0), .val (.int p1), .unset, .unset] [(.int a), (.int p1)])) (X38_3.iaload hx (j := (0 : Int32)) (v := (.int a)) (by rw [e38_3]; exact Ar38_4.1) (State.isArrayOf_alike hZ.alike Ar38_4.2.1) Ar38_4.2.2 hin38_4 (Has.at Hs38_4 hin38_4 rfl) (g := (mkF m 18 #[.val (.ref r0), .val (.int p1), .unset, .unset] [(.int (0 : Int32)), (.ref na), (.int p1)])) rfl rfl (hb hby d38_18)) ?_
  refine own_fw (fun _ => ox_icmpYes X38_3.here hx (pc0 := 19) (pc' := 30) rfl (hb hby d38_19) rfl (flt hge).2.2.2 (by decide) (by decide)) ?_
  refine own_fw (fun _ => ox_aloadN X38_3.here hx (hb hby d38_30) rfl rfl) ?_
  refine own_gf X38_3 hx hZ hown (own_w hw 10 rfl) Via.refl e38_3 Fn (hb hby d38_31) rfl fun T38_5 X38_5 e38_5 => ?_
  refine own_fw (fun _ => ox_iconst X38_5.here hx (hb hby d38_34)) ?_
  refine own_fw (fun _ => ox_aloadN X38_5.here hx (hb hby d38_35) rfl rfl) ?_
  refine own_gf X38_5 hx hZ hown (own_w hw 56 rfl) Via.refl e38_5 Fs (hb hby d38_36) rfl fun T38_6 X38_6 e38_6 => ?_
  refine own_fw (fun _ => ox_iloadN X38_6.here hx (hb hby d38_39) rfl) ?_
  refine own_sc X38_6 hx hZ hown (rmBS_1b l Z a0 hw [] na p1 kn a b h0 n0 Z0 Vn hge hlt) (own_w hw 240 rfl) (own_w hw 241 rfl) (own_w hw 242 rfl) (own_w hw 186 rfl) (by decide) hml rfl e38_6 (hb hby d38_40) rfl rfl (lenOf pd38_0 rfl) (W := 0) rfl (by decide) (by decide) (c' := 0) (s' := 0) rfl rfl (by decide) (by decide) ?_
  rintro _ T38_7 L38_7 X38_7 ⟨rfl, N38_7q, e38_7⟩
  have N38_7 := Fr.app N0 N38_7q
  refine own_fw (fun _ => ox_istoreN X38_7.here hx (hb hby d38_43) rfl (l' := #[.val (.ref r0), .val (.int p1), .unset, .val (.int (-1 : Int32))]) rfl) ?_
  refine own_fw (fun _ => ox_iloadN X38_7.here hx (hb hby d38_44) rfl) ?_
  refine own_fw (fun _ => ox_ifYes X38_7.here hx (pc0 := 45) (pc' := 52) rfl (hb hby d38_45) rfl ((if0 _ _).trans (tlt (by decide : ((-1 : Int32) < (0 : Int32)))).1) (by decide) (by decide)) ?_
  refine own_fw (fun _ => ox_iloadN X38_7.here hx (hb hby d38_52) rfl) ?_
  refine own_fw (fun _ => ox_ineg X38_7.here hx (hb hby d38_53) rfl) ?_
  refine own_fw (fun _ => ox_iconst X38_7.here hx (hb hby d38_54)) ?_
  refine own_fw (fun _ => ox_isub X38_7.here hx (hb hby d38_55) rfl) ?_
  refine own_fw (fun _ => ox_istoreN X38_7.here hx (hb hby d38_56) rfl (l' := #[.val (.ref r0), .val (.int p1), .val (.int ((-(-1 : Int32)) - (1 : Int32))), .val (.int (-1 : Int32))]) rfl) ?_
  refine own_fw (fun _ => ox_iloadN X38_7.here hx (hb hby d38_57) rfl) ?_
  exact own_leaf X38_7 (v := some (.int ((-(-1 : Int32)) - (1 : Int32)))) (own_ret Bd.returns) (BodyLoose.notSynchronized Bd) e38_7 (⟨congrArg (fun z => some (Value.int z)) (by decide), N38_7, rfl⟩) (by decide) (by decide) (fun fs hr => retI X38_7 hx Bd.returns (hb hby d38_58) hr)
theorem rmPL_1c (l : Launch) (Z : State) (a0 : Array Value) (hw : ∀ d ∈ tables_1, d.before a0 Z = true) (ws : List Jvm.Cond) (r0 : Addr) (p1 : Int32) (na : Addr) (kn : ClassId) (a : Int32) (b : Int32) (h0 : Heap) (n0 : Nat) (Z0 : n0 ≤ h0.size) (Fs : Fld Z h0 r0 "com/example/copperline/copperline/Program" "size" "I" (.int (1 : Int32))) (Fn : Fld Z h0 r0 "com/example/copperline/copperline/Program" "numbers" "[I" (.ref na)) (Vn : Arv Z h0 na kn .int (16 : Int32) [(.int a), (.int b), (.int (0 : Int32)), (.int (0 : Int32)), (.int (0 : Int32)), (.int (0 : Int32)), (.int (0 : Int32)), (.int (0 : Int32)), (.int (0 : Int32)), (.int (0 : Int32)), (.int (0 : Int32)), (.int (0 : Int32)), (.int (0 : Int32)), (.int (0 : Int32)), (.int (0 : Int32)), (.int (0 : Int32))] (.int 0)) (hge : ¬ a < p1) (hlt : ¬ p1 < a) : OwnC l Z mN1 (Jvm.Cond.code mN1 prog_49_method_13_code 4 (some .int) :: ws) ({ frames := 2, cells := 0, slots := 0, locals := 60 } : Room) #[(.ref r0), (.int p1)] h0 (Q38 Z (0 : Int32) h0 n0) := by
  refine own_body (plainFor_of_name pn38) (fun m => ef38 m r0 p1) ?_
  intro p e s m below meth c s₁ Bd hZ hml hown e0 hx hby hnm X0
  have N0 := Fr.nil n0
  refine own_fw (fun _ => ox_aloadN X0.here hx (hb hby d38_0) rfl rfl) ?_
  refine own_gf X0 hx hZ hown (own_w hw 56 rfl) Via.refl e0 Fs (hb hby d38_1) rfl fun T38_1 X38_1 e38_1 => ?_
  refine own_fw (fun _ => ox_ifNo X38_1.here hx (hb hby d38_4) rfl ((if0 _ _).trans (feq (by decide : ¬ ((1 : Int32) = (0 : Int32)))).1)) ?_
  refine own_fw (fun _ => ox_iloadN X38_1.here hx (hb hby d38_7) rfl) ?_
  refine own_fw (fun _ => ox_aloadN X38_1.here hx (hb hby d38_8) rfl rfl) ?_
  refine own_gf X38_1 hx hZ hown (own_w hw 10 rfl) Via.refl e38_1 Fn (hb hby d38_9) rfl fun T38_2 X38_2 e38_2 => ?_
  refine own_fw (fun _ => ox_aloadN X38_2.here hx (hb hby d38_12) rfl rfl) ?_
  refine own_gf X38_2 hx hZ hown (own_w hw 56 rfl) Via.refl e38_2 Fs (hb hby d38_13) rfl fun T38_3 X38_3 e38_3 => ?_
  refine own_fw (fun _ => ox_iconst X38_3.here hx (hb hby d38_16)) ?_
  refine own_fw (fun _ => ox_isub X38_3.here hx (hb hby d38_17) rfl) ?_
  obtain ⟨cl38_4, Ar38_4, q38_4, S38_4, Ng38_4, Hs38_4, G38_4⟩ := id Vn
  have hin38_4 : ¬ ((0 : Int32) < 0 ∨ cl38_4.slots.size ≤ ((0 : Int32)).toNatClampNeg) := inb_of S38_4 ⟨by decide, by decide⟩
  refine own_fw (A := T38_3.setTop (mkF m 19 #[.val (.ref r0), .val (.int p1), .unset, .unset] [(.int a), (.int p1)])) (X38_3.iaload hx (j := (0 : Int32)) (v := (.int a)) (by rw [e38_3]; exact Ar38_4.1) (State.isArrayOf_alike hZ.alike Ar38_4.2.1) Ar38_4.2.2 hin38_4 (Has.at Hs38_4 hin38_4 rfl) (g := (mkF m 18 #[.val (.ref r0), .val (.int p1), .unset, .unset] [(.int (0 : Int32)), (.ref na), (.int p1)])) rfl rfl (hb hby d38_18)) ?_
  refine own_fw (fun _ => ox_icmpYes X38_3.here hx (pc0 := 19) (pc' := 30) rfl (hb hby d38_19) rfl (flt hge).2.2.2 (by decide) (by decide)) ?_
  refine own_fw (fun _ => ox_aloadN X38_3.here hx (hb hby d38_30) rfl rfl) ?_
  refine own_gf X38_3 hx hZ hown (own_w hw 10 rfl) Via.refl e38_3 Fn (hb hby d38_31) rfl fun T38_5 X38_5 e38_5 => ?_
  refine own_fw (fun _ => ox_iconst X38_5.here hx (hb hby d38_34)) ?_
  refine own_fw (fun _ => ox_aloadN X38_5.here hx (hb hby d38_35) rfl rfl) ?_
  refine own_gf X38_5 hx hZ hown (own_w hw 56 rfl) Via.refl e38_5 Fs (hb hby d38_36) rfl fun T38_6 X38_6 e38_6 => ?_
  refine own_fw (fun _ => ox_iloadN X38_6.here hx (hb hby d38_39) rfl) ?_
  refine own_sc X38_6 hx hZ hown (rmBS_1c l Z a0 hw [] na p1 kn a b h0 n0 Z0 Vn hge hlt) (own_w hw 240 rfl) (own_w hw 241 rfl) (own_w hw 242 rfl) (own_w hw 186 rfl) (by decide) hml rfl e38_6 (hb hby d38_40) rfl rfl (lenOf pd38_0 rfl) (W := 0) rfl (by decide) (by decide) (c' := 0) (s' := 0) rfl rfl (by decide) (by decide) ?_
  rintro _ T38_7 L38_7 X38_7 ⟨rfl, N38_7q, e38_7⟩
  have N38_7 := Fr.app N0 N38_7q
  refine own_fw (fun _ => ox_istoreN X38_7.here hx (hb hby d38_43) rfl (l' := #[.val (.ref r0), .val (.int p1), .unset, .val (.int (0 : Int32))]) rfl) ?_
  refine own_fw (fun _ => ox_iloadN X38_7.here hx (hb hby d38_44) rfl) ?_
  refine own_fw (fun _ => ox_ifNo X38_7.here hx (hb hby d38_45) rfl ((if0 _ _).trans (flt (Int32.lt_irrefl : ¬ ((0 : Int32) < (0 : Int32)))).1)) ?_
  refine own_fw (fun _ => ox_iloadN X38_7.here hx (hb hby d38_48) rfl) ?_
  refine own_fw (fun _ => ox_goto X38_7.here hx (pc0 := 49) (pc' := 56) rfl (hb hby d38_49) (by decide) (by decide)) ?_
  refine own_fw (fun _ => ox_istoreN X38_7.here hx (hb hby d38_56) rfl (l' := #[.val (.ref r0), .val (.int p1), .val (.int (0 : Int32)), .val (.int (0 : Int32))]) rfl) ?_
  refine own_fw (fun _ => ox_iloadN X38_7.here hx (hb hby d38_57) rfl) ?_
  exact own_leaf X38_7 (v := some (.int (0 : Int32))) (own_ret Bd.returns) (BodyLoose.notSynchronized Bd) e38_7 (⟨congrArg (fun z => some (Value.int z)) (by decide), N38_7, rfl⟩) (by decide) (by decide) (fun fs hr => retI X38_7 hx Bd.returns (hb hby d38_58) hr)
theorem rmPL_2b (l : Launch) (Z : State) (a0 : Array Value) (hw : ∀ d ∈ tables_1, d.before a0 Z = true) (ws : List Jvm.Cond) (r0 : Addr) (p1 : Int32) (na : Addr) (kn : ClassId) (a : Int32) (b : Int32) (h0 : Heap) (n0 : Nat) (Z0 : n0 ≤ h0.size) (Fs : Fld Z h0 r0 "com/example/copperline/copperline/Program" "size" "I" (.int (2 : Int32))) (Fn : Fld Z h0 r0 "com/example/copperline/copperline/Program" "numbers" "[I" (.ref na)) (Vn : Arv Z h0 na kn .int (16 : Int32) [(.int a), (.int b), (.int (0 : Int32)), (.int (0 : Int32)), (.int (0 : Int32)), (.int (0 : Int32)), (.int (0 : Int32)), (.int (0 : Int32)), (.int (0 : Int32)), (.int (0 : Int32)), (.int (0 : Int32)), (.int (0 : Int32)), (.int (0 : Int32)), (.int (0 : Int32)), (.int (0 : Int32)), (.int (0 : Int32))] (.int 0)) (hb2 : ¬ b < p1) (hge : ¬ a < p1) (hlt : p1 < a) : OwnC l Z mN1 (Jvm.Cond.code mN1 prog_49_method_13_code 4 (some .int) :: ws) ({ frames := 2, cells := 0, slots := 0, locals := 60 } : Room) #[(.ref r0), (.int p1)] h0 (Q38 Z (0 : Int32) h0 n0) := by
  refine own_body (plainFor_of_name pn38) (fun m => ef38 m r0 p1) ?_
  intro p e s m below meth c s₁ Bd hZ hml hown e0 hx hby hnm X0
  have N0 := Fr.nil n0
  refine own_fw (fun _ => ox_aloadN X0.here hx (hb hby d38_0) rfl rfl) ?_
  refine own_gf X0 hx hZ hown (own_w hw 56 rfl) Via.refl e0 Fs (hb hby d38_1) rfl fun T38_1 X38_1 e38_1 => ?_
  refine own_fw (fun _ => ox_ifNo X38_1.here hx (hb hby d38_4) rfl ((if0 _ _).trans (feq (by decide : ¬ ((2 : Int32) = (0 : Int32)))).1)) ?_
  refine own_fw (fun _ => ox_iloadN X38_1.here hx (hb hby d38_7) rfl) ?_
  refine own_fw (fun _ => ox_aloadN X38_1.here hx (hb hby d38_8) rfl rfl) ?_
  refine own_gf X38_1 hx hZ hown (own_w hw 10 rfl) Via.refl e38_1 Fn (hb hby d38_9) rfl fun T38_2 X38_2 e38_2 => ?_
  refine own_fw (fun _ => ox_aloadN X38_2.here hx (hb hby d38_12) rfl rfl) ?_
  refine own_gf X38_2 hx hZ hown (own_w hw 56 rfl) Via.refl e38_2 Fs (hb hby d38_13) rfl fun T38_3 X38_3 e38_3 => ?_
  refine own_fw (fun _ => ox_iconst X38_3.here hx (hb hby d38_16)) ?_
  refine own_fw (fun _ => ox_isub X38_3.here hx (hb hby d38_17) rfl) ?_
  obtain ⟨cl38_4, Ar38_4, q38_4, S38_4, Ng38_4, Hs38_4, G38_4⟩ := id Vn
  have hin38_4 : ¬ ((1 : Int32) < 0 ∨ cl38_4.slots.size ≤ ((1 : Int32)).toNatClampNeg) := inb_of S38_4 ⟨by decide, by decide⟩
  refine own_fw (A := T38_3.setTop (mkF m 19 #[.val (.ref r0), .val (.int p1), .unset, .unset] [(.int b), (.int p1)])) (X38_3.iaload hx (j := (1 : Int32)) (v := (.int b)) (by rw [e38_3]; exact Ar38_4.1) (State.isArrayOf_alike hZ.alike Ar38_4.2.1) Ar38_4.2.2 hin38_4 (Has.at Hs38_4 hin38_4 rfl) (g := (mkF m 18 #[.val (.ref r0), .val (.int p1), .unset, .unset] [(.int (1 : Int32)), (.ref na), (.int p1)])) rfl rfl (hb hby d38_18)) ?_
  refine own_fw (fun _ => ox_icmpYes X38_3.here hx (pc0 := 19) (pc' := 30) rfl (hb hby d38_19) rfl (flt hb2).2.2.2 (by decide) (by decide)) ?_
  refine own_fw (fun _ => ox_aloadN X38_3.here hx (hb hby d38_30) rfl rfl) ?_
  refine own_gf X38_3 hx hZ hown (own_w hw 10 rfl) Via.refl e38_3 Fn (hb hby d38_31) rfl fun T38_5 X38_5 e38_5 => ?_
  refine own_fw (fun _ => ox_iconst X38_5.here hx (hb hby d38_34)) ?_
  refine own_fw (fun _ => ox_aloadN X38_5.here hx (hb hby d38_35) rfl rfl) ?_
  refine own_gf X38_5 hx hZ hown (own_w hw 56 rfl) Via.refl e38_5 Fs (hb hby d38_36) rfl fun T38_6 X38_6 e38_6 => ?_
  refine own_fw (fun _ => ox_iloadN X38_6.here hx (hb hby d38_39) rfl) ?_
  refine own_sc X38_6 hx hZ hown (rmBS_2b l Z a0 hw [] na p1 kn a b h0 n0 Z0 Vn hge hlt) (own_w hw 240 rfl) (own_w hw 241 rfl) (own_w hw 242 rfl) (own_w hw 186 rfl) (by decide) hml rfl e38_6 (hb hby d38_40) rfl rfl (lenOf pd38_0 rfl) (W := 0) rfl (by decide) (by decide) (c' := 0) (s' := 0) rfl rfl (by decide) (by decide) ?_
  rintro _ T38_7 L38_7 X38_7 ⟨rfl, N38_7q, e38_7⟩
  have N38_7 := Fr.app N0 N38_7q
  refine own_fw (fun _ => ox_istoreN X38_7.here hx (hb hby d38_43) rfl (l' := #[.val (.ref r0), .val (.int p1), .unset, .val (.int (-1 : Int32))]) rfl) ?_
  refine own_fw (fun _ => ox_iloadN X38_7.here hx (hb hby d38_44) rfl) ?_
  refine own_fw (fun _ => ox_ifYes X38_7.here hx (pc0 := 45) (pc' := 52) rfl (hb hby d38_45) rfl ((if0 _ _).trans (tlt (by decide : ((-1 : Int32) < (0 : Int32)))).1) (by decide) (by decide)) ?_
  refine own_fw (fun _ => ox_iloadN X38_7.here hx (hb hby d38_52) rfl) ?_
  refine own_fw (fun _ => ox_ineg X38_7.here hx (hb hby d38_53) rfl) ?_
  refine own_fw (fun _ => ox_iconst X38_7.here hx (hb hby d38_54)) ?_
  refine own_fw (fun _ => ox_isub X38_7.here hx (hb hby d38_55) rfl) ?_
  refine own_fw (fun _ => ox_istoreN X38_7.here hx (hb hby d38_56) rfl (l' := #[.val (.ref r0), .val (.int p1), .val (.int ((-(-1 : Int32)) - (1 : Int32))), .val (.int (-1 : Int32))]) rfl) ?_
  refine own_fw (fun _ => ox_iloadN X38_7.here hx (hb hby d38_57) rfl) ?_
  exact own_leaf X38_7 (v := some (.int ((-(-1 : Int32)) - (1 : Int32)))) (own_ret Bd.returns) (BodyLoose.notSynchronized Bd) e38_7 (⟨congrArg (fun z => some (Value.int z)) (by decide), N38_7, rfl⟩) (by decide) (by decide) (fun fs hr => retI X38_7 hx Bd.returns (hb hby d38_58) hr)
theorem rmPL_2c (l : Launch) (Z : State) (a0 : Array Value) (hw : ∀ d ∈ tables_1, d.before a0 Z = true) (ws : List Jvm.Cond) (r0 : Addr) (p1 : Int32) (na : Addr) (kn : ClassId) (a : Int32) (b : Int32) (h0 : Heap) (n0 : Nat) (Z0 : n0 ≤ h0.size) (Fs : Fld Z h0 r0 "com/example/copperline/copperline/Program" "size" "I" (.int (2 : Int32))) (Fn : Fld Z h0 r0 "com/example/copperline/copperline/Program" "numbers" "[I" (.ref na)) (Vn : Arv Z h0 na kn .int (16 : Int32) [(.int a), (.int b), (.int (0 : Int32)), (.int (0 : Int32)), (.int (0 : Int32)), (.int (0 : Int32)), (.int (0 : Int32)), (.int (0 : Int32)), (.int (0 : Int32)), (.int (0 : Int32)), (.int (0 : Int32)), (.int (0 : Int32)), (.int (0 : Int32)), (.int (0 : Int32)), (.int (0 : Int32)), (.int (0 : Int32))] (.int 0)) (hb2 : ¬ b < p1) (hge : ¬ a < p1) (hlt : ¬ p1 < a) : OwnC l Z mN1 (Jvm.Cond.code mN1 prog_49_method_13_code 4 (some .int) :: ws) ({ frames := 2, cells := 0, slots := 0, locals := 60 } : Room) #[(.ref r0), (.int p1)] h0 (Q38 Z (0 : Int32) h0 n0) := by
  refine own_body (plainFor_of_name pn38) (fun m => ef38 m r0 p1) ?_
  intro p e s m below meth c s₁ Bd hZ hml hown e0 hx hby hnm X0
  have N0 := Fr.nil n0
  refine own_fw (fun _ => ox_aloadN X0.here hx (hb hby d38_0) rfl rfl) ?_
  refine own_gf X0 hx hZ hown (own_w hw 56 rfl) Via.refl e0 Fs (hb hby d38_1) rfl fun T38_1 X38_1 e38_1 => ?_
  refine own_fw (fun _ => ox_ifNo X38_1.here hx (hb hby d38_4) rfl ((if0 _ _).trans (feq (by decide : ¬ ((2 : Int32) = (0 : Int32)))).1)) ?_
  refine own_fw (fun _ => ox_iloadN X38_1.here hx (hb hby d38_7) rfl) ?_
  refine own_fw (fun _ => ox_aloadN X38_1.here hx (hb hby d38_8) rfl rfl) ?_
  refine own_gf X38_1 hx hZ hown (own_w hw 10 rfl) Via.refl e38_1 Fn (hb hby d38_9) rfl fun T38_2 X38_2 e38_2 => ?_
  refine own_fw (fun _ => ox_aloadN X38_2.here hx (hb hby d38_12) rfl rfl) ?_
  refine own_gf X38_2 hx hZ hown (own_w hw 56 rfl) Via.refl e38_2 Fs (hb hby d38_13) rfl fun T38_3 X38_3 e38_3 => ?_
  refine own_fw (fun _ => ox_iconst X38_3.here hx (hb hby d38_16)) ?_
  refine own_fw (fun _ => ox_isub X38_3.here hx (hb hby d38_17) rfl) ?_
  obtain ⟨cl38_4, Ar38_4, q38_4, S38_4, Ng38_4, Hs38_4, G38_4⟩ := id Vn
  have hin38_4 : ¬ ((1 : Int32) < 0 ∨ cl38_4.slots.size ≤ ((1 : Int32)).toNatClampNeg) := inb_of S38_4 ⟨by decide, by decide⟩
  refine own_fw (A := T38_3.setTop (mkF m 19 #[.val (.ref r0), .val (.int p1), .unset, .unset] [(.int b), (.int p1)])) (X38_3.iaload hx (j := (1 : Int32)) (v := (.int b)) (by rw [e38_3]; exact Ar38_4.1) (State.isArrayOf_alike hZ.alike Ar38_4.2.1) Ar38_4.2.2 hin38_4 (Has.at Hs38_4 hin38_4 rfl) (g := (mkF m 18 #[.val (.ref r0), .val (.int p1), .unset, .unset] [(.int (1 : Int32)), (.ref na), (.int p1)])) rfl rfl (hb hby d38_18)) ?_
  refine own_fw (fun _ => ox_icmpYes X38_3.here hx (pc0 := 19) (pc' := 30) rfl (hb hby d38_19) rfl (flt hb2).2.2.2 (by decide) (by decide)) ?_
  refine own_fw (fun _ => ox_aloadN X38_3.here hx (hb hby d38_30) rfl rfl) ?_
  refine own_gf X38_3 hx hZ hown (own_w hw 10 rfl) Via.refl e38_3 Fn (hb hby d38_31) rfl fun T38_5 X38_5 e38_5 => ?_
  refine own_fw (fun _ => ox_iconst X38_5.here hx (hb hby d38_34)) ?_
  refine own_fw (fun _ => ox_aloadN X38_5.here hx (hb hby d38_35) rfl rfl) ?_
  refine own_gf X38_5 hx hZ hown (own_w hw 56 rfl) Via.refl e38_5 Fs (hb hby d38_36) rfl fun T38_6 X38_6 e38_6 => ?_
  refine own_fw (fun _ => ox_iloadN X38_6.here hx (hb hby d38_39) rfl) ?_
  refine own_sc X38_6 hx hZ hown (rmBS_2c l Z a0 hw [] na p1 kn a b h0 n0 Z0 Vn hge hlt) (own_w hw 240 rfl) (own_w hw 241 rfl) (own_w hw 242 rfl) (own_w hw 186 rfl) (by decide) hml rfl e38_6 (hb hby d38_40) rfl rfl (lenOf pd38_0 rfl) (W := 0) rfl (by decide) (by decide) (c' := 0) (s' := 0) rfl rfl (by decide) (by decide) ?_
  rintro _ T38_7 L38_7 X38_7 ⟨rfl, N38_7q, e38_7⟩
  have N38_7 := Fr.app N0 N38_7q
  refine own_fw (fun _ => ox_istoreN X38_7.here hx (hb hby d38_43) rfl (l' := #[.val (.ref r0), .val (.int p1), .unset, .val (.int (0 : Int32))]) rfl) ?_
  refine own_fw (fun _ => ox_iloadN X38_7.here hx (hb hby d38_44) rfl) ?_
  refine own_fw (fun _ => ox_ifNo X38_7.here hx (hb hby d38_45) rfl ((if0 _ _).trans (flt (Int32.lt_irrefl : ¬ ((0 : Int32) < (0 : Int32)))).1)) ?_
  refine own_fw (fun _ => ox_iloadN X38_7.here hx (hb hby d38_48) rfl) ?_
  refine own_fw (fun _ => ox_goto X38_7.here hx (pc0 := 49) (pc' := 56) rfl (hb hby d38_49) (by decide) (by decide)) ?_
  refine own_fw (fun _ => ox_istoreN X38_7.here hx (hb hby d38_56) rfl (l' := #[.val (.ref r0), .val (.int p1), .val (.int (0 : Int32)), .val (.int (0 : Int32))]) rfl) ?_
  refine own_fw (fun _ => ox_iloadN X38_7.here hx (hb hby d38_57) rfl) ?_
  exact own_leaf X38_7 (v := some (.int (0 : Int32))) (own_ret Bd.returns) (BodyLoose.notSynchronized Bd) e38_7 (⟨congrArg (fun z => some (Value.int z)) (by decide), N38_7, rfl⟩) (by decide) (by decide) (fun fs hr => retI X38_7 hx Bd.returns (hb hby d38_58) hr)
theorem d37_0 : decode cB0 0 = .ok (.aload_n 0, 1) := by decide +kernel
theorem d37_1 : decode cB0 1 = .ok (.iload_n 1, 1) := by decide +kernel
theorem d37_2 : decode cB0 2 = .ok (.invokevirtual 72, 3) := by decide +kernel
theorem d37_5 : decode cB0 5 = .ok (.istore_n 3, 1) := by decide +kernel
theorem d37_6 : decode cB0 6 = .ok (.iload_n 3, 1) := by decide +kernel
theorem d37_7 : decode cB0 7 = .ok (.aload_n 0, 1) := by decide +kernel
theorem d37_8 : decode cB0 8 = .ok (.getfield 62, 3) := by decide +kernel
theorem d37_11 : decode cB0 11 = .ok (.if_icmp .ge 17, 3) := by decide +kernel
theorem d37_14 : decode cB0 14 = .ok (.aload_n 0, 1) := by decide +kernel
theorem d37_15 : decode cB0 15 = .ok (.getfield 7, 3) := by decide +kernel
theorem d37_18 : decode cB0 18 = .ok (.iload_n 3, 1) := by decide +kernel
theorem d37_19 : decode cB0 19 = .ok (.iaload, 1) := by decide +kernel
theorem d37_20 : decode cB0 20 = .ok (.iload_n 1, 1) := by decide +kernel
theorem d37_21 : decode cB0 21 = .ok (.if_icmp .ne 7, 3) := by decide +kernel
theorem d37_24 : decode cB0 24 = .ok (.iconst 1, 1) := by decide +kernel
theorem d37_25 : decode cB0 25 = .ok (.goto 4, 3) := by decide +kernel
theorem d37_28 : decode cB0 28 = .ok (.iconst 0, 1) := by decide +kernel
theorem d37_29 : decode cB0 29 = .ok (.istore 4, 2) := by decide +kernel
theorem d37_31 : decode cB0 31 = .ok (.iload 4, 2) := by decide +kernel
theorem d37_33 : decode cB0 33 = .ok (.ifCond .eq 79, 3) := by decide +kernel
theorem d37_36 : decode cB0 36 = .ok (.aload_n 2, 1) := by decide +kernel
theorem d37_37 : decode cB0 37 = .ok (.invokevirtual 132, 3) := by decide +kernel
theorem d37_40 : decode cB0 40 = .ok (.ifCond .eq 72, 3) := by decide +kernel
theorem d37_112 : decode cB0 112 = .ok (.iload 4, 2) := by decide +kernel
theorem d37_114 : decode cB0 114 = .ok (.ifCond .eq 13, 3) := by decide +kernel
theorem d37_117 : decode cB0 117 = .ok (.aload_n 0, 1) := by decide +kernel
theorem d37_118 : decode cB0 118 = .ok (.getfield 15, 3) := by decide +kernel
theorem d37_121 : decode cB0 121 = .ok (.iload_n 3, 1) := by decide +kernel
theorem d37_122 : decode cB0 122 = .ok (.aload_n 2, 1) := by decide +kernel
theorem d37_123 : decode cB0 123 = .ok (.aastore, 1) := by decide +kernel
theorem d37_124 : decode cB0 124 = .ok (.goto 125, 3) := by decide +kernel
theorem d37_127 : decode cB0 127 = .ok (.aload_n 2, 1) := by decide +kernel
theorem d37_128 : decode cB0 128 = .ok (.invokevirtual 132, 3) := by decide +kernel
theorem d37_131 : decode cB0 131 = .ok (.ifCond .ne 118, 3) := by decide +kernel
theorem d37_134 : decode cB0 134 = .ok (.aload_n 0, 1) := by decide +kernel
theorem d37_135 : decode cB0 135 = .ok (.getfield 62, 3) := by decide +kernel
theorem d37_138 : decode cB0 138 = .ok (.aload_n 0, 1) := by decide +kernel
theorem d37_139 : decode cB0 139 = .ok (.getfield 7, 3) := by decide +kernel
theorem d37_142 : decode cB0 142 = .ok (.arraylength, 1) := by decide +kernel
theorem d37_143 : decode cB0 143 = .ok (.if_icmp .ne 40, 3) := by decide +kernel
theorem d37_183 : decode cB0 183 = .ok (.aload_n 0, 1) := by decide +kernel
theorem d37_184 : decode cB0 184 = .ok (.getfield 7, 3) := by decide +kernel
theorem d37_187 : decode cB0 187 = .ok (.iload_n 3, 1) := by decide +kernel
theorem d37_188 : decode cB0 188 = .ok (.aload_n 0, 1) := by decide +kernel
theorem d37_189 : decode cB0 189 = .ok (.getfield 7, 3) := by decide +kernel
theorem d37_192 : decode cB0 192 = .ok (.iload_n 3, 1) := by decide +kernel
theorem d37_193 : decode cB0 193 = .ok (.iconst 1, 1) := by decide +kernel
theorem d37_194 : decode cB0 194 = .ok (.iadd, 1) := by decide +kernel
theorem d37_195 : decode cB0 195 = .ok (.aload_n 0, 1) := by decide +kernel
theorem d37_196 : decode cB0 196 = .ok (.getfield 62, 3) := by decide +kernel
theorem d37_199 : decode cB0 199 = .ok (.iload_n 3, 1) := by decide +kernel
theorem d37_200 : decode cB0 200 = .ok (.isub, 1) := by decide +kernel
theorem d37_201 : decode cB0 201 = .ok (.invokestatic 43, 3) := by decide +kernel
theorem d37_204 : decode cB0 204 = .ok (.aload_n 0, 1) := by decide +kernel
theorem d37_205 : decode cB0 205 = .ok (.getfield 15, 3) := by decide +kernel
theorem d37_208 : decode cB0 208 = .ok (.iload_n 3, 1) := by decide +kernel
theorem d37_209 : decode cB0 209 = .ok (.aload_n 0, 1) := by decide +kernel
theorem d37_210 : decode cB0 210 = .ok (.getfield 15, 3) := by decide +kernel
theorem d37_213 : decode cB0 213 = .ok (.iload_n 3, 1) := by decide +kernel
theorem d37_214 : decode cB0 214 = .ok (.iconst 1, 1) := by decide +kernel
theorem d37_215 : decode cB0 215 = .ok (.iadd, 1) := by decide +kernel
theorem d37_216 : decode cB0 216 = .ok (.aload_n 0, 1) := by decide +kernel
theorem d37_217 : decode cB0 217 = .ok (.getfield 62, 3) := by decide +kernel
theorem d37_220 : decode cB0 220 = .ok (.iload_n 3, 1) := by decide +kernel
theorem d37_221 : decode cB0 221 = .ok (.isub, 1) := by decide +kernel
theorem d37_222 : decode cB0 222 = .ok (.invokestatic 43, 3) := by decide +kernel
theorem d37_225 : decode cB0 225 = .ok (.aload_n 0, 1) := by decide +kernel
theorem d37_226 : decode cB0 226 = .ok (.getfield 7, 3) := by decide +kernel
theorem d37_229 : decode cB0 229 = .ok (.iload_n 3, 1) := by decide +kernel
theorem d37_230 : decode cB0 230 = .ok (.iload_n 1, 1) := by decide +kernel
theorem d37_231 : decode cB0 231 = .ok (.iastore, 1) := by decide +kernel
theorem d37_232 : decode cB0 232 = .ok (.aload_n 0, 1) := by decide +kernel
theorem d37_233 : decode cB0 233 = .ok (.getfield 15, 3) := by decide +kernel
theorem d37_236 : decode cB0 236 = .ok (.iload_n 3, 1) := by decide +kernel
theorem d37_237 : decode cB0 237 = .ok (.aload_n 2, 1) := by decide +kernel
theorem d37_238 : decode cB0 238 = .ok (.aastore, 1) := by decide +kernel
theorem d37_239 : decode cB0 239 = .ok (.aload_n 0, 1) := by decide +kernel
theorem d37_240 : decode cB0 240 = .ok (.dup, 1) := by decide +kernel
theorem d37_241 : decode cB0 241 = .ok (.getfield 62, 3) := by decide +kernel
theorem d37_244 : decode cB0 244 = .ok (.iconst 1, 1) := by decide +kernel
theorem d37_245 : decode cB0 245 = .ok (.iadd, 1) := by decide +kernel
theorem d37_246 : decode cB0 246 = .ok (.putfield 62, 3) := by decide +kernel
theorem d37_249 : decode cB0 249 = .ok (.aload_n 0, 1) := by decide +kernel
theorem d37_250 : decode cB0 250 = .ok (.dup, 1) := by decide +kernel
theorem d37_251 : decode cB0 251 = .ok (.getfield 66, 3) := by decide +kernel
theorem d37_254 : decode cB0 254 = .ok (.iconst 1, 1) := by decide +kernel
theorem d37_255 : decode cB0 255 = .ok (.iadd, 1) := by decide +kernel
theorem d37_256 : decode cB0 256 = .ok (.putfield 66, 3) := by decide +kernel
theorem d37_259 : decode cB0 259 = .ok (.return_, 1) := by decide +kernel
theorem pn37 : plainName "com/example/copperline/copperline/Program" = true := by first | (simp [plainName, overriddenIn]; done) | decide +kernel
theorem pd37_0 : parseMethodDescriptor "(I)I" = some ⟨[.int], some .int⟩ := by decide +kernel
theorem pd37_1 : parseMethodDescriptor "()Z" = some ⟨[], some .boolean⟩ := by decide +kernel
theorem ef37 (m : MethodId) (r0 : Addr) (p1 : Int32) (r2 : Addr) : entryFrame m #[(.ref r0), (.int p1), (.ref r2)] 5 = mkF m 0 #[.val (.ref r0), .val (.int p1), .val (.ref r2), .unset, .unset] [] := by first | (simp [entryFrame, mkF, argsToLocals, Value.category]; done) | rfl
def Q37 (Z : State) (r0 na ta : Addr) (R : Heap → Prop) (h0 : Heap) (n0 : Nat) (w : Option Value) (h : Heap) (L : List Loc) : Prop := w = none ∧ Fr n0 L ∧ Keep h0 h [r0, na, ta] ∧ R h
def OwnN1 (Z : State) (p na ta : Addr) (kn kt : ClassId) (ver : Int32) (h : Heap) : Prop := ∃ a t, ¬ a < (0 : Int32) ∧ Exa Z h t "java/lang/String" ∧ OwnPG Z h p na ta kn kt 1 ver a 0 (.ref t) .null
def OwnN2 (Z : State) (p na ta : Addr) (kn kt : ClassId) (ver : Int32) (h : Heap) : Prop := ∃ a b t u, ¬ a < (0 : Int32) ∧ ¬ b < (0 : Int32) ∧ Exa Z h t "java/lang/String" ∧ Exa Z h u "java/lang/String" ∧ OwnPG Z h p na ta kn kt 2 ver a b (.ref t) (.ref u)
theorem own_ltne {a b : Int32} (h : a < b) : ¬ b = a := fun q => by subst q; exact Int32.lt_irrefl h
theorem own_le2 {a b : Int32} (h1 : ¬ a < b) (h2 : ¬ b < a) : a = b := by
  rw [Int32.lt_iff_toInt_lt] at h1 h2
  exact Int32.toInt_inj.mp (by omega)
theorem rmST_0 (l : Launch) (Z : State) (a0 : Array Value) (hw : ∀ d ∈ tables_1, d.before a0 Z = true) (ws : List Jvm.Cond) (r0 : Addr) (p1 : Int32) (r2 : Addr) (na : Addr) (ta : Addr) (kn : ClassId) (kt : ClassId) (ver : Int32) (vb : Addr) (kb : ClassId) (nn : Int32) (vs : List Value) (h0 : Heap) (n0 : Nat) (Z0 : n0 ≤ h0.size) (P_0 : OwnPG Z h0 r0 na ta kn kt (0 : Int32) ver (0 : Int32) (0 : Int32) .null .null) (Es : Exa Z h0 r2 "java/lang/String") (Sv : Fld Z h0 r2 "java/lang/String" "value" "[B" (.ref vb)) (Vs : Arv Z h0 vb kb .byte nn vs (.int 0)) (hn : ¬ nn = (0 : Int32)) (g_r0 : n0 ≤ r0) (g_na : n0 ≤ na) (g_ta : n0 ≤ ta) : OwnC l Z mN5 (Jvm.Cond.code mN5 prog_49_method_12_code 5 none :: ws) ({ frames := 3, cells := 0, slots := 0, locals := 90 } : Room) #[(.ref r0), (.int p1), (.ref r2)] h0 (Q37 Z r0 na ta (fun h => Exa Z h r2 "java/lang/String" ∧ OwnPG Z h r0 na ta kn kt 1 (ver + (1 : Int32)) p1 0 (.ref r2) .null) h0 n0) := by
  refine own_body (plainFor_of_name pn37) (fun m => ef37 m r0 p1 r2) ?_
  intro p e s m below meth c s₁ Bd hZ hml hown e0 hx hby hnm X0
  have N0 := Fr.nil n0
  obtain ⟨Ep, Fn, Ft, Fs, Fv, Vn, Vt, En, Et, Ov, nt⟩ := P_0
  have npn : r0 ≠ na := Exa.neArv Ep Vn (own_w hw 1 rfl)
  have npt : r0 ≠ ta := Exa.neArv Ep Vt (own_w hw 1 rfl)
  refine own_fw (fun _ => ox_aloadN X0.here hx (hb hby d37_0) rfl rfl) ?_
  refine own_fw (fun _ => ox_iloadN X0.here hx (hb hby d37_1) rfl) ?_
  refine own_pc X0 hx hZ hown (rmPL_0 l Z a0 hw [] r0 p1 na kn (0 : Int32) (0 : Int32) h0 n0 Z0 Fs Fn Vn ) (own_w hw 209 rfl) (own_w hw 211 rfl) (own_selP (y := mN1) (own_w hw 1 rfl) (own_w hw 211 rfl) (own_w hw 210 rfl) (by decide)) (own_w hw 210 rfl) (own_w hw 212 rfl) (own_w hw 2 rfl) (by decide) hml rfl Ep e0 (hb hby d37_2) rfl rfl (lenOf pd37_0 rfl) (W := 0) rfl (by decide) (by decide) (c' := 0) (s' := 0) rfl rfl (by decide) (by decide) ?_
  rintro _ T37_1 L37_1 X37_1 ⟨rfl, N37_1q, e37_1⟩
  have N37_1 := Fr.app N0 N37_1q
  refine own_fw (fun _ => ox_istoreN X37_1.here hx (hb hby d37_5) rfl (l' := #[.val (.ref r0), .val (.int p1), .val (.ref r2), .val (.int (0 : Int32)), .unset]) rfl) ?_
  refine own_fw (fun _ => ox_iloadN X37_1.here hx (hb hby d37_6) rfl) ?_
  refine own_fw (fun _ => ox_aloadN X37_1.here hx (hb hby d37_7) rfl rfl) ?_
  refine own_gf X37_1 hx hZ hown (own_w hw 56 rfl) Via.refl e37_1 Fs (hb hby d37_8) rfl fun T37_2 X37_2 e37_2 => ?_
  refine own_fw (fun _ => ox_icmpYes X37_2.here hx (pc0 := 11) (pc' := 28) rfl (hb hby d37_11) rfl (flt (Int32.lt_irrefl : ¬ ((0 : Int32) < (0 : Int32)))).2.1 (by decide) (by decide)) ?_
  refine own_fw (fun _ => ox_iconst X37_2.here hx (hb hby d37_28)) ?_
  refine own_fw (fun _ => ox_istore X37_2.here hx (hb hby d37_29) rfl (l' := #[.val (.ref r0), .val (.int p1), .val (.ref r2), .val (.int (0 : Int32)), .val (.int (0 : Int32))]) rfl) ?_
  refine own_fw (fun _ => ox_iload X37_2.here hx (hb hby d37_31) rfl) ?_
  refine own_fw (fun _ => ox_ifYes X37_2.here hx (pc0 := 33) (pc' := 112) rfl (hb hby d37_33) rfl ((if0 _ _).trans (teq (rfl : (0 : Int32) = (0 : Int32))).1) (by decide) (by decide)) ?_
  refine own_fw (fun _ => ox_iload X37_2.here hx (hb hby d37_112) rfl) ?_
  refine own_fw (fun _ => ox_ifYes X37_2.here hx (pc0 := 114) (pc' := 127) rfl (hb hby d37_114) rfl ((if0 _ _).trans (teq (rfl : (0 : Int32) = (0 : Int32))).1) (by decide) (by decide)) ?_
  refine own_fw (fun _ => ox_aloadN X37_2.here hx (hb hby d37_127) rfl rfl) ?_
  refine own_vc X37_2 hx hZ hown (rm39 l Z a0 hw [] r2 vb kb nn vs h0 n0 Z0 Sv Vs hn) (own_w hw 213 rfl) (own_w hw 214 rfl) (own_w hw 216 rfl) (own_w hw 215 rfl) (own_w hw 217 rfl) (own_w hw 19 rfl) (by decide) hml rfl Es e37_2 (hb hby d37_128) rfl rfl (lenOf pd37_1 rfl) (W := 0) rfl (by decide) (by decide) (c' := 0) (s' := 0) rfl rfl (by decide) (by decide) ?_
  rintro _ T37_3 L37_3 X37_3 ⟨rfl, N37_3q, e37_3⟩
  have N37_3 := Fr.app N37_1 N37_3q
  refine own_fw (fun _ => ox_ifNo X37_3.here hx (hb hby d37_131) rfl ((if0 _ _).trans (teq (rfl : (0 : Int32) = (0 : Int32))).2)) ?_
  refine own_fw (fun _ => ox_aloadN X37_3.here hx (hb hby d37_134) rfl rfl) ?_
  refine own_gf X37_3 hx hZ hown (own_w hw 56 rfl) Via.refl e37_3 Fs (hb hby d37_135) rfl fun T37_4 X37_4 e37_4 => ?_
  refine own_fw (fun _ => ox_aloadN X37_4.here hx (hb hby d37_138) rfl rfl) ?_
  refine own_gf X37_4 hx hZ hown (own_w hw 10 rfl) Via.refl e37_4 Fn (hb hby d37_139) rfl fun T37_5 X37_5 e37_5 => ?_
  obtain ⟨cl37_6, Ar37_6, q37_6, S37_6, Ng37_6, Hs37_6, G37_6⟩ := id Vn
  have st37_6 := X37_5.arraylength hx (by rw [e37_5]; exact Ar37_6.1) (State.isArrayOf_alike hZ.alike Ar37_6.2.1) (g := (mkF m 142 #[.val (.ref r0), .val (.int p1), .val (.ref r2), .val (.int (0 : Int32)), .val (.int (0 : Int32))] [(.ref na), (.int (0 : Int32))])) rfl rfl (hb hby d37_142)
  rw [len_of S37_6 Ng37_6] at st37_6
  refine own_fw (A := T37_5.setTop (mkF m 143 #[.val (.ref r0), .val (.int p1), .val (.ref r2), .val (.int (0 : Int32)), .val (.int (0 : Int32))] [(.int (16 : Int32)), (.int (0 : Int32))])) st37_6 ?_
  refine own_fw (fun _ => ox_icmpYes X37_5.here hx (pc0 := 143) (pc' := 183) rfl (hb hby d37_143) rfl (feq (by decide : ¬ ((0 : Int32) = (16 : Int32)))).2 (by decide) (by decide)) ?_
  refine own_fw (fun _ => ox_aloadN X37_5.here hx (hb hby d37_183) rfl rfl) ?_
  refine own_gf X37_5 hx hZ hown (own_w hw 10 rfl) Via.refl e37_5 Fn (hb hby d37_184) rfl fun T37_7 X37_7 e37_7 => ?_
  refine own_fw (fun _ => ox_iloadN X37_7.here hx (hb hby d37_187) rfl) ?_
  refine own_fw (fun _ => ox_aloadN X37_7.here hx (hb hby d37_188) rfl rfl) ?_
  refine own_gf X37_7 hx hZ hown (own_w hw 10 rfl) Via.refl e37_7 Fn (hb hby d37_189) rfl fun T37_8 X37_8 e37_8 => ?_
  refine own_fw (fun _ => ox_iloadN X37_8.here hx (hb hby d37_192) rfl) ?_
  refine own_fw (fun _ => ox_iconst X37_8.here hx (hb hby d37_193)) ?_
  refine own_fw (fun _ => ox_iadd X37_8.here hx (hb hby d37_194) rfl) ?_
  refine own_fw (fun _ => ox_aloadN X37_8.here hx (hb hby d37_195) rfl rfl) ?_
  refine own_gf X37_8 hx hZ hown (own_w hw 56 rfl) Via.refl e37_8 Fs (hb hby d37_196) rfl fun T37_9 X37_9 e37_9 => ?_
  refine own_fw (fun _ => ox_iloadN X37_9.here hx (hb hby d37_199) rfl) ?_
  refine own_fw (fun _ => ox_isub X37_9.here hx (hb hby d37_200) rfl) ?_
  obtain ⟨T37_10, h37_10, L37_10, X37_10, e37_10, N37_10, K37_10, Va37_10, st37_10⟩ := own_ac X37_9 hx hZ hown (own_w hw 218 rfl) (own_w hw 201 rfl) (own_w hw 199 rfl) (own_w hw 200 rfl) e37_9 (o := 0) (q := 1) (n := 0) Vn Vn (by decide) (by decide) (by decide) (by decide) (by decide) (fun i hi => absurd hi (Nat.not_lt_zero i)) N37_3 g_na (g := (mkF m 201 #[.val (.ref r0), .val (.int p1), .val (.ref r2), .val (.int (0 : Int32)), .val (.int (0 : Int32))] [(.int (0 : Int32)), (.int (1 : Int32)), (.ref na), (.int (0 : Int32)), (.ref na)])) rfl (by rw [hml]; rfl) (rest := []) rfl (hb hby d37_201) (by decide) (W := 0) (own_mr rfl) (by decide)
  have V37_10 : Arv Z h37_10 na kn .int (16 : Int32) [(.int (0 : Int32)), (.int (0 : Int32)), (.int (0 : Int32)), (.int (0 : Int32)), (.int (0 : Int32)), (.int (0 : Int32)), (.int (0 : Int32)), (.int (0 : Int32)), (.int (0 : Int32)), (.int (0 : Int32)), (.int (0 : Int32)), (.int (0 : Int32)), (.int (0 : Int32)), (.int (0 : Int32)), (.int (0 : Int32)), (.int (0 : Int32))] (.int 0) := Va37_10
  refine own_fw (A := T37_10.setTop (mkF m 204 #[.val (.ref r0), .val (.int p1), .val (.ref r2), .val (.int (0 : Int32)), .val (.int (0 : Int32))] [])) st37_10 ?_
  have fc37_11 := (Vt.keep K37_10 (fun q => (Ne.symm nt) (List.mem_singleton.mp q)))
  have fc37_12 := ((Keep.refl h0 [r0, na, ta]).trans K37_10 (allS (Or.inl (List.mem_of_getElem? (i := 1) rfl)) all0))
  refine own_fw (fun _ => ox_aloadN X37_10.here hx (hb hby d37_204) rfl rfl) ?_
  refine own_gf X37_10 hx hZ hown (own_w hw 14 rfl) Via.refl e37_10 (Ft.keep K37_10 (fun q => npn (List.mem_singleton.mp q))) (hb hby d37_205) rfl fun T37_13 X37_13 e37_13 => ?_
  refine own_fw (fun _ => ox_iloadN X37_13.here hx (hb hby d37_208) rfl) ?_
  refine own_fw (fun _ => ox_aloadN X37_13.here hx (hb hby d37_209) rfl rfl) ?_
  refine own_gf X37_13 hx hZ hown (own_w hw 14 rfl) Via.refl e37_13 (Ft.keep K37_10 (fun q => npn (List.mem_singleton.mp q))) (hb hby d37_210) rfl fun T37_14 X37_14 e37_14 => ?_
  refine own_fw (fun _ => ox_iloadN X37_14.here hx (hb hby d37_213) rfl) ?_
  refine own_fw (fun _ => ox_iconst X37_14.here hx (hb hby d37_214)) ?_
  refine own_fw (fun _ => ox_iadd X37_14.here hx (hb hby d37_215) rfl) ?_
  refine own_fw (fun _ => ox_aloadN X37_14.here hx (hb hby d37_216) rfl rfl) ?_
  refine own_gf X37_14 hx hZ hown (own_w hw 56 rfl) Via.refl e37_14 (Fs.keep K37_10 (fun q => npn (List.mem_singleton.mp q))) (hb hby d37_217) rfl fun T37_15 X37_15 e37_15 => ?_
  refine own_fw (fun _ => ox_iloadN X37_15.here hx (hb hby d37_220) rfl) ?_
  refine own_fw (fun _ => ox_isub X37_15.here hx (hb hby d37_221) rfl) ?_
  obtain ⟨T37_16, h37_16, L37_16, X37_16, e37_16, N37_16, K37_16, Va37_16, st37_16⟩ := own_ac X37_15 hx hZ hown (own_w hw 218 rfl) (own_w hw 201 rfl) (own_w hw 199 rfl) (own_w hw 200 rfl) e37_15 (o := 0) (q := 1) (n := 0) fc37_11 fc37_11 (by decide) (by decide) (by decide) (by decide) (by decide) (fun i hi => absurd hi (Nat.not_lt_zero i)) N37_10 g_ta (g := (mkF m 222 #[.val (.ref r0), .val (.int p1), .val (.ref r2), .val (.int (0 : Int32)), .val (.int (0 : Int32))] [(.int (0 : Int32)), (.int (1 : Int32)), (.ref ta), (.int (0 : Int32)), (.ref ta)])) rfl (by rw [hml]; rfl) (rest := []) rfl (hb hby d37_222) (by decide) (W := 0) (own_mr rfl) (by decide)
  have V37_16 : Arv Z h37_16 ta kt (.object "java/lang/String") (16 : Int32) [.null, .null, .null, .null, .null, .null, .null, .null, .null, .null, .null, .null, .null, .null, .null, .null] .null := Va37_16
  refine own_fw (A := T37_16.setTop (mkF m 225 #[.val (.ref r0), .val (.int p1), .val (.ref r2), .val (.int (0 : Int32)), .val (.int (0 : Int32))] [])) st37_16 ?_
  have fc37_17 := ((Fn.keep K37_10 (fun q => npn (List.mem_singleton.mp q))).keep K37_16 (fun q => npt (List.mem_singleton.mp q)))
  have fc37_18 := ((Ft.keep K37_10 (fun q => npn (List.mem_singleton.mp q))).keep K37_16 (fun q => npt (List.mem_singleton.mp q)))
  have fc37_19 := ((Fs.keep K37_10 (fun q => npn (List.mem_singleton.mp q))).keep K37_16 (fun q => npt (List.mem_singleton.mp q)))
  have fc37_20 := ((Fv.keep K37_10 (fun q => npn (List.mem_singleton.mp q))).keep K37_16 (fun q => npt (List.mem_singleton.mp q)))
  have fc37_21 := (fc37_12.trans K37_16 (allS (Or.inl (List.mem_of_getElem? (i := 2) rfl)) all0))
  refine own_fw (fun _ => ox_aloadN X37_16.here hx (hb hby d37_225) rfl rfl) ?_
  refine own_gf X37_16 hx hZ hown (own_w hw 10 rfl) Via.refl e37_16 fc37_17 (hb hby d37_226) rfl fun T37_22 X37_22 e37_22 => ?_
  refine own_fw (fun _ => ox_iloadN X37_22.here hx (hb hby d37_229) rfl) ?_
  refine own_fw (fun _ => ox_iloadN X37_22.here hx (hb hby d37_230) rfl) ?_
  obtain ⟨cl37_23, Ar37_23, q37_23, S37_23, Ng37_23, Hs37_23, G37_23⟩ := id (V37_10.keep K37_16 (fun q => nt (List.mem_singleton.mp q)))
  have hin37_23 : ¬ ((0 : Int32) < 0 ∨ cl37_23.slots.size ≤ ((0 : Int32)).toNatClampNeg) := inb_of S37_23 ⟨by decide, by decide⟩
  obtain ⟨T37_23, h37_23, X37_23, e37_23, W37_23, st37_23⟩ := stI X37_22 hx hZ e37_22 Ar37_23 (j := (0 : Int32)) hin37_23 (g := (mkF m 231 #[.val (.ref r0), .val (.int p1), .val (.ref r2), .val (.int (0 : Int32)), .val (.int (0 : Int32))] [(.int p1), (.int (0 : Int32)), (.ref na)])) rfl rfl (hb hby d37_231)
  have V37_23 : Arv Z h37_23 na kn .int (16 : Int32) [(.int p1), (.int (0 : Int32)), (.int (0 : Int32)), (.int (0 : Int32)), (.int (0 : Int32)), (.int (0 : Int32)), (.int (0 : Int32)), (.int (0 : Int32)), (.int (0 : Int32)), (.int (0 : Int32)), (.int (0 : Int32)), (.int (0 : Int32)), (.int (0 : Int32)), (.int (0 : Int32)), (.int (0 : Int32)), (.int (0 : Int32))] (.int 0) := Arv.set Ar37_23 q37_23 S37_23 Ng37_23 Hs37_23 G37_23 rfl W37_23 0 rfl (Nat.le_of_ble_eq_true rfl)
  have N37_23 := Fr.snoc X37_23 N37_16 g_na
  refine own_fw (A := T37_23.setTop (mkF m 232 #[.val (.ref r0), .val (.int p1), .val (.ref r2), .val (.int (0 : Int32)), .val (.int (0 : Int32))] [])) st37_23 ?_
  have fc37_24 := (fc37_21.wr W37_23 (Or.inl (List.mem_of_getElem? (i := 1) rfl)))
  refine own_fw (fun _ => ox_aloadN X37_23.here hx (hb hby d37_232) rfl rfl) ?_
  refine own_gf X37_23 hx hZ hown (own_w hw 14 rfl) Via.refl e37_23 (fc37_18.other W37_23 (Or.inl npn)) (hb hby d37_233) rfl fun T37_26 X37_26 e37_26 => ?_
  refine own_fw (fun _ => ox_iloadN X37_26.here hx (hb hby d37_236) rfl) ?_
  refine own_fw (fun _ => ox_aloadN X37_26.here hx (hb hby d37_237) rfl rfl) ?_
  obtain ⟨cl37_27, Ar37_27, q37_27, S37_27, Ng37_27, Hs37_27, G37_27⟩ := id (V37_16.other W37_23 (Ne.symm nt))
  have hin37_27 : ¬ ((0 : Int32) < 0 ∨ cl37_27.slots.size ≤ ((0 : Int32)).toNatClampNeg) := inb_of S37_27 ⟨by decide, by decide⟩
  obtain ⟨T37_27, h37_27, X37_27, e37_27, W37_27, st37_27⟩ := stR X37_26 hx hZ e37_26 Ar37_27 (j := (0 : Int32)) hin37_27 rfl (Sto.ofV Ar37_27 q37_27 Ov (Ins.self (((Es.keep K37_10).keep K37_16).wr W37_23))) (g := (mkF m 238 #[.val (.ref r0), .val (.int p1), .val (.ref r2), .val (.int (0 : Int32)), .val (.int (0 : Int32))] [(.ref r2), (.int (0 : Int32)), (.ref ta)])) rfl rfl (hb hby d37_238)
  have V37_27 : Arv Z h37_27 ta kt (.object "java/lang/String") (16 : Int32) [(.ref r2), .null, .null, .null, .null, .null, .null, .null, .null, .null, .null, .null, .null, .null, .null, .null] .null := Arv.set Ar37_27 q37_27 S37_27 Ng37_27 Hs37_27 G37_27 rfl W37_27 0 rfl (Nat.le_of_ble_eq_true rfl)
  have N37_27 := Fr.snoc X37_27 N37_23 g_ta
  refine own_fw (A := T37_27.setTop (mkF m 239 #[.val (.ref r0), .val (.int p1), .val (.ref r2), .val (.int (0 : Int32)), .val (.int (0 : Int32))] [])) st37_27 ?_
  have fc37_28 := ((fc37_17.other W37_23 (Or.inl npn)).other W37_27 (Or.inl npt))
  have fc37_29 := ((fc37_18.other W37_23 (Or.inl npn)).other W37_27 (Or.inl npt))
  have fc37_30 := ((fc37_19.other W37_23 (Or.inl npn)).other W37_27 (Or.inl npt))
  have fc37_31 := ((fc37_20.other W37_23 (Or.inl npn)).other W37_27 (Or.inl npt))
  have fc37_32 := (fc37_24.wr W37_27 (Or.inl (List.mem_of_getElem? (i := 2) rfl)))
  refine own_fw (fun _ => ox_aloadN X37_27.here hx (hb hby d37_239) rfl rfl) ?_
  refine own_fw (fun _ => ox_dup X37_27.here hx (hb hby d37_240) rfl rfl) ?_
  refine own_gf X37_27 hx hZ hown (own_w hw 56 rfl) Via.refl e37_27 fc37_30 (hb hby d37_241) rfl fun T37_33 X37_33 e37_33 => ?_
  refine own_fw (fun _ => ox_iconst X37_33.here hx (hb hby d37_244)) ?_
  refine own_fw (fun _ => ox_iadd X37_33.here hx (hb hby d37_245) rfl) ?_
  obtain ⟨T37_34, h37_34, X37_34, e37_34, W37_34, st37_34⟩ := putF X37_33 hx hZ hown (host := "") (Or.inl (own_w hw 56 rfl)) Via.refl e37_33 fc37_30 ((((Ep.keep K37_10).keep K37_16).wr W37_23).wr W37_27) (Or.inl (own_w hw 57 rfl)) (own_w hw 1 rfl) (ty := .int) (by decide) rfl rfl (g := (mkF m 246 #[.val (.ref r0), .val (.int p1), .val (.ref r2), .val (.int (0 : Int32)), .val (.int (0 : Int32))] [(.int (1 : Int32)), (.ref r0)])) rfl rfl (hb hby d37_246)
  have Fw37_34 := fc37_30.same W37_34
  have N37_34 := Fr.snoc X37_34 N37_27 g_r0
  refine own_fw (A := T37_34.setTop (mkF m 249 #[.val (.ref r0), .val (.int p1), .val (.ref r2), .val (.int (0 : Int32)), .val (.int (0 : Int32))] [])) st37_34 ?_
  have fc37_35 := (((((Ep.keep K37_10).keep K37_16).wr W37_23).wr W37_27).wr W37_34)
  have fc37_36 := (fc37_28.other W37_34 (Or.inr (slot_ne (Or.inl (own_w hw 11 rfl)) (Or.inl (own_w hw 57 rfl)) (by decide) (t := (.array .int)) (t' := .int) (by decide) (by decide))))
  have fc37_37 := (fc37_29.other W37_34 (Or.inr (slot_ne (Or.inl (own_w hw 15 rfl)) (Or.inl (own_w hw 57 rfl)) (by decide) (t := (.array (.object "java/lang/String"))) (t' := .int) (by decide) (by decide))))
  have fc37_38 := (fc37_31.other W37_34 (Or.inr (slot_ne (Or.inl (own_w hw 50 rfl)) (Or.inl (own_w hw 57 rfl)) (by decide) (t := .int) (t' := .int) (by decide) (by decide))))
  have fc37_39 := (((((En.keep K37_10).keep K37_16).wr W37_23).wr W37_27).wr W37_34)
  have fc37_40 := (((((Et.keep K37_10).keep K37_16).wr W37_23).wr W37_27).wr W37_34)
  have fc37_41 := (((((Es.keep K37_10).keep K37_16).wr W37_23).wr W37_27).wr W37_34)
  have fc37_42 := (fc37_32.wr W37_34 (Or.inl (List.mem_of_getElem? (i := 0) rfl)))
  refine own_fw (fun _ => ox_aloadN X37_34.here hx (hb hby d37_249) rfl rfl) ?_
  refine own_fw (fun _ => ox_dup X37_34.here hx (hb hby d37_250) rfl rfl) ?_
  refine own_gf X37_34 hx hZ hown (own_w hw 49 rfl) Via.refl e37_34 fc37_38 (hb hby d37_251) rfl fun T37_44 X37_44 e37_44 => ?_
  refine own_fw (fun _ => ox_iconst X37_44.here hx (hb hby d37_254)) ?_
  refine own_fw (fun _ => ox_iadd X37_44.here hx (hb hby d37_255) rfl) ?_
  obtain ⟨T37_45, h37_45, X37_45, e37_45, W37_45, st37_45⟩ := putF X37_44 hx hZ hown (host := "") (Or.inl (own_w hw 49 rfl)) Via.refl e37_44 fc37_38 fc37_35 (Or.inl (own_w hw 50 rfl)) (own_w hw 1 rfl) (ty := .int) (by decide) rfl rfl (g := (mkF m 256 #[.val (.ref r0), .val (.int p1), .val (.ref r2), .val (.int (0 : Int32)), .val (.int (0 : Int32))] [(.int (ver + (1 : Int32))), (.ref r0)])) rfl rfl (hb hby d37_256)
  have Fw37_45 := fc37_38.same W37_45
  have N37_45 := Fr.snoc X37_45 N37_34 g_r0
  refine own_fw (A := T37_45.setTop (mkF m 259 #[.val (.ref r0), .val (.int p1), .val (.ref r2), .val (.int (0 : Int32)), .val (.int (0 : Int32))] [])) st37_45 ?_
  have fc37_46 := (fc37_36.other W37_45 (Or.inr (slot_ne (Or.inl (own_w hw 11 rfl)) (Or.inl (own_w hw 50 rfl)) (by decide) (t := (.array .int)) (t' := .int) (by decide) (by decide))))
  have fc37_47 := (fc37_37.other W37_45 (Or.inr (slot_ne (Or.inl (own_w hw 15 rfl)) (Or.inl (own_w hw 50 rfl)) (by decide) (t := (.array (.object "java/lang/String"))) (t' := .int) (by decide) (by decide))))
  have fc37_48 := (Fw37_34.other W37_45 (Or.inr (slot_ne (Or.inl (own_w hw 57 rfl)) (Or.inl (own_w hw 50 rfl)) (by decide) (t := .int) (t' := .int) (by decide) (by decide))))
  have fc37_49 := (((V37_23.other W37_27 nt).other W37_34 (Ne.symm npn)).other W37_45 (Ne.symm npn))
  have fc37_50 := ((V37_27.other W37_34 (Ne.symm npt)).other W37_45 (Ne.symm npt))
  have fc37_51 := (fc37_42.wr W37_45 (Or.inl (List.mem_of_getElem? (i := 0) rfl)))
  exact own_leaf X37_45 (v := none) (fun _ => rfl) (BodyLoose.notSynchronized Bd) e37_45 (⟨rfl, N37_45, fc37_51, ⟨(fc37_41.wr W37_45), ⟨(fc37_35.wr W37_45), fc37_46, fc37_47, fc37_48, Fw37_45, fc37_49, fc37_50, (fc37_39.wr W37_45), (fc37_40.wr W37_45), Ov, nt⟩⟩⟩) (by decide) (by decide) (fun fs hr => X37_45.returnOut hx Bd.returns (hb hby d37_259) hr)
theorem rmST_1 (l : Launch) (Z : State) (a0 : Array Value) (hw : ∀ d ∈ tables_1, d.before a0 Z = true) (ws : List Jvm.Cond) (r0 : Addr) (p1 : Int32) (r2 : Addr) (na : Addr) (ta : Addr) (kn : ClassId) (kt : ClassId) (ver : Int32) (a : Int32) (t0 : Addr) (vb : Addr) (kb : ClassId) (nn : Int32) (vs : List Value) (h0 : Heap) (n0 : Nat) (Z0 : n0 ≤ h0.size) (P_0 : OwnPG Z h0 r0 na ta kn kt (1 : Int32) ver a (0 : Int32) (.ref t0) .null) (Es : Exa Z h0 r2 "java/lang/String") (Sv : Fld Z h0 r2 "java/lang/String" "value" "[B" (.ref vb)) (Vs : Arv Z h0 vb kb .byte nn vs (.int 0)) (hn : ¬ nn = (0 : Int32)) (g_r0 : n0 ≤ r0) (g_na : n0 ≤ na) (g_ta : n0 ≤ ta) (Et0 : Exa Z h0 t0 "java/lang/String") (ha : ¬ a < (0 : Int32)) (hp : ¬ p1 < (0 : Int32)) : OwnC l Z mN5 (Jvm.Cond.code mN5 prog_49_method_12_code 5 none :: ws) ({ frames := 3, cells := 0, slots := 0, locals := 90 } : Room) #[(.ref r0), (.int p1), (.ref r2)] h0 (Q37 Z r0 na ta (fun h => OwnN1 Z r0 na ta kn kt (ver + (1 : Int32)) h ∨ OwnN2 Z r0 na ta kn kt (ver + (1 : Int32)) h) h0 n0) := by
  refine own_body (plainFor_of_name pn37) (fun m => ef37 m r0 p1 r2) ?_
  intro p e s m below meth c s₁ Bd hZ hml hown e0 hx hby hnm X0
  have N0 := Fr.nil n0
  obtain ⟨Ep, Fn, Ft, Fs, Fv, Vn, Vt, En, Et, Ov, nt⟩ := P_0
  have npn : r0 ≠ na := Exa.neArv Ep Vn (own_w hw 1 rfl)
  have npt : r0 ≠ ta := Exa.neArv Ep Vt (own_w hw 1 rfl)
  by_cases hc1 : a < p1
  · refine own_fw (fun _ => ox_aloadN X0.here hx (hb hby d37_0) rfl rfl) ?_
    refine own_fw (fun _ => ox_iloadN X0.here hx (hb hby d37_1) rfl) ?_
    refine own_pc X0 hx hZ hown (rmPL_1a l Z a0 hw [] r0 p1 na kn a (0 : Int32) h0 n0 Z0 Fs Fn Vn hc1) (own_w hw 209 rfl) (own_w hw 211 rfl) (own_selP (y := mN1) (own_w hw 1 rfl) (own_w hw 211 rfl) (own_w hw 210 rfl) (by decide)) (own_w hw 210 rfl) (own_w hw 212 rfl) (own_w hw 2 rfl) (by decide) hml rfl Ep e0 (hb hby d37_2) rfl rfl (lenOf pd37_0 rfl) (W := 0) rfl (by decide) (by decide) (c' := 0) (s' := 0) rfl rfl (by decide) (by decide) ?_
    rintro _ T37_1 L37_1 X37_1 ⟨rfl, N37_1q, e37_1⟩
    have N37_1 := Fr.app N0 N37_1q
    refine own_fw (fun _ => ox_istoreN X37_1.here hx (hb hby d37_5) rfl (l' := #[.val (.ref r0), .val (.int p1), .val (.ref r2), .val (.int (1 : Int32)), .unset]) rfl) ?_
    refine own_fw (fun _ => ox_iloadN X37_1.here hx (hb hby d37_6) rfl) ?_
    refine own_fw (fun _ => ox_aloadN X37_1.here hx (hb hby d37_7) rfl rfl) ?_
    refine own_gf X37_1 hx hZ hown (own_w hw 56 rfl) Via.refl e37_1 Fs (hb hby d37_8) rfl fun T37_2 X37_2 e37_2 => ?_
    refine own_fw (fun _ => ox_icmpYes X37_2.here hx (pc0 := 11) (pc' := 28) rfl (hb hby d37_11) rfl (flt (Int32.lt_irrefl : ¬ ((1 : Int32) < (1 : Int32)))).2.1 (by decide) (by decide)) ?_
    refine own_fw (fun _ => ox_iconst X37_2.here hx (hb hby d37_28)) ?_
    refine own_fw (fun _ => ox_istore X37_2.here hx (hb hby d37_29) rfl (l' := #[.val (.ref r0), .val (.int p1), .val (.ref r2), .val (.int (1 : Int32)), .val (.int (0 : Int32))]) rfl) ?_
    refine own_fw (fun _ => ox_iload X37_2.here hx (hb hby d37_31) rfl) ?_
    refine own_fw (fun _ => ox_ifYes X37_2.here hx (pc0 := 33) (pc' := 112) rfl (hb hby d37_33) rfl ((if0 _ _).trans (teq (rfl : (0 : Int32) = (0 : Int32))).1) (by decide) (by decide)) ?_
    refine own_fw (fun _ => ox_iload X37_2.here hx (hb hby d37_112) rfl) ?_
    refine own_fw (fun _ => ox_ifYes X37_2.here hx (pc0 := 114) (pc' := 127) rfl (hb hby d37_114) rfl ((if0 _ _).trans (teq (rfl : (0 : Int32) = (0 : Int32))).1) (by decide) (by decide)) ?_
    refine own_fw (fun _ => ox_aloadN X37_2.here hx (hb hby d37_127) rfl rfl) ?_
    refine own_vc X37_2 hx hZ hown (rm39 l Z a0 hw [] r2 vb kb nn vs h0 n0 Z0 Sv Vs hn) (own_w hw 213 rfl) (own_w hw 214 rfl) (own_w hw 216 rfl) (own_w hw 215 rfl) (own_w hw 217 rfl) (own_w hw 19 rfl) (by decide) hml rfl Es e37_2 (hb hby d37_128) rfl rfl (lenOf pd37_1 rfl) (W := 0) rfl (by decide) (by decide) (c' := 0) (s' := 0) rfl rfl (by decide) (by decide) ?_
    rintro _ T37_3 L37_3 X37_3 ⟨rfl, N37_3q, e37_3⟩
    have N37_3 := Fr.app N37_1 N37_3q
    refine own_fw (fun _ => ox_ifNo X37_3.here hx (hb hby d37_131) rfl ((if0 _ _).trans (teq (rfl : (0 : Int32) = (0 : Int32))).2)) ?_
    refine own_fw (fun _ => ox_aloadN X37_3.here hx (hb hby d37_134) rfl rfl) ?_
    refine own_gf X37_3 hx hZ hown (own_w hw 56 rfl) Via.refl e37_3 Fs (hb hby d37_135) rfl fun T37_4 X37_4 e37_4 => ?_
    refine own_fw (fun _ => ox_aloadN X37_4.here hx (hb hby d37_138) rfl rfl) ?_
    refine own_gf X37_4 hx hZ hown (own_w hw 10 rfl) Via.refl e37_4 Fn (hb hby d37_139) rfl fun T37_5 X37_5 e37_5 => ?_
    obtain ⟨cl37_6, Ar37_6, q37_6, S37_6, Ng37_6, Hs37_6, G37_6⟩ := id Vn
    have st37_6 := X37_5.arraylength hx (by rw [e37_5]; exact Ar37_6.1) (State.isArrayOf_alike hZ.alike Ar37_6.2.1) (g := (mkF m 142 #[.val (.ref r0), .val (.int p1), .val (.ref r2), .val (.int (1 : Int32)), .val (.int (0 : Int32))] [(.ref na), (.int (1 : Int32))])) rfl rfl (hb hby d37_142)
    rw [len_of S37_6 Ng37_6] at st37_6
    refine own_fw (A := T37_5.setTop (mkF m 143 #[.val (.ref r0), .val (.int p1), .val (.ref r2), .val (.int (1 : Int32)), .val (.int (0 : Int32))] [(.int (16 : Int32)), (.int (1 : Int32))])) st37_6 ?_
    refine own_fw (fun _ => ox_icmpYes X37_5.here hx (pc0 := 143) (pc' := 183) rfl (hb hby d37_143) rfl (feq (by decide : ¬ ((1 : Int32) = (16 : Int32)))).2 (by decide) (by decide)) ?_
    refine own_fw (fun _ => ox_aloadN X37_5.here hx (hb hby d37_183) rfl rfl) ?_
    refine own_gf X37_5 hx hZ hown (own_w hw 10 rfl) Via.refl e37_5 Fn (hb hby d37_184) rfl fun T37_7 X37_7 e37_7 => ?_
    refine own_fw (fun _ => ox_iloadN X37_7.here hx (hb hby d37_187) rfl) ?_
    refine own_fw (fun _ => ox_aloadN X37_7.here hx (hb hby d37_188) rfl rfl) ?_
    refine own_gf X37_7 hx hZ hown (own_w hw 10 rfl) Via.refl e37_7 Fn (hb hby d37_189) rfl fun T37_8 X37_8 e37_8 => ?_
    refine own_fw (fun _ => ox_iloadN X37_8.here hx (hb hby d37_192) rfl) ?_
    refine own_fw (fun _ => ox_iconst X37_8.here hx (hb hby d37_193)) ?_
    refine own_fw (fun _ => ox_iadd X37_8.here hx (hb hby d37_194) rfl) ?_
    refine own_fw (fun _ => ox_aloadN X37_8.here hx (hb hby d37_195) rfl rfl) ?_
    refine own_gf X37_8 hx hZ hown (own_w hw 56 rfl) Via.refl e37_8 Fs (hb hby d37_196) rfl fun T37_9 X37_9 e37_9 => ?_
    refine own_fw (fun _ => ox_iloadN X37_9.here hx (hb hby d37_199) rfl) ?_
    refine own_fw (fun _ => ox_isub X37_9.here hx (hb hby d37_200) rfl) ?_
    obtain ⟨T37_10, h37_10, L37_10, X37_10, e37_10, N37_10, K37_10, Va37_10, st37_10⟩ := own_ac X37_9 hx hZ hown (own_w hw 218 rfl) (own_w hw 201 rfl) (own_w hw 199 rfl) (own_w hw 200 rfl) e37_9 (o := 1) (q := 2) (n := 0) Vn Vn (by decide) (by decide) (by decide) (by decide) (by decide) (fun i hi => absurd hi (Nat.not_lt_zero i)) N37_3 g_na (g := (mkF m 201 #[.val (.ref r0), .val (.int p1), .val (.ref r2), .val (.int (1 : Int32)), .val (.int (0 : Int32))] [(.int (0 : Int32)), (.int (2 : Int32)), (.ref na), (.int (1 : Int32)), (.ref na)])) rfl (by rw [hml]; rfl) (rest := []) rfl (hb hby d37_201) (by decide) (W := 0) (own_mr rfl) (by decide)
    have V37_10 : Arv Z h37_10 na kn .int (16 : Int32) [(.int a), (.int (0 : Int32)), (.int (0 : Int32)), (.int (0 : Int32)), (.int (0 : Int32)), (.int (0 : Int32)), (.int (0 : Int32)), (.int (0 : Int32)), (.int (0 : Int32)), (.int (0 : Int32)), (.int (0 : Int32)), (.int (0 : Int32)), (.int (0 : Int32)), (.int (0 : Int32)), (.int (0 : Int32)), (.int (0 : Int32))] (.int 0) := Va37_10
    refine own_fw (A := T37_10.setTop (mkF m 204 #[.val (.ref r0), .val (.int p1), .val (.ref r2), .val (.int (1 : Int32)), .val (.int (0 : Int32))] [])) st37_10 ?_
    have fc37_11 := (Vt.keep K37_10 (fun q => (Ne.symm nt) (List.mem_singleton.mp q)))
    have fc37_12 := ((Keep.refl h0 [r0, na, ta]).trans K37_10 (allS (Or.inl (List.mem_of_getElem? (i := 1) rfl)) all0))
    refine own_fw (fun _ => ox_aloadN X37_10.here hx (hb hby d37_204) rfl rfl) ?_
    refine own_gf X37_10 hx hZ hown (own_w hw 14 rfl) Via.refl e37_10 (Ft.keep K37_10 (fun q => npn (List.mem_singleton.mp q))) (hb hby d37_205) rfl fun T37_13 X37_13 e37_13 => ?_
    refine own_fw (fun _ => ox_iloadN X37_13.here hx (hb hby d37_208) rfl) ?_
    refine own_fw (fun _ => ox_aloadN X37_13.here hx (hb hby d37_209) rfl rfl) ?_
    refine own_gf X37_13 hx hZ hown (own_w hw 14 rfl) Via.refl e37_13 (Ft.keep K37_10 (fun q => npn (List.mem_singleton.mp q))) (hb hby d37_210) rfl fun T37_14 X37_14 e37_14 => ?_
    refine own_fw (fun _ => ox_iloadN X37_14.here hx (hb hby d37_213) rfl) ?_
    refine own_fw (fun _ => ox_iconst X37_14.here hx (hb hby d37_214)) ?_
    refine own_fw (fun _ => ox_iadd X37_14.here hx (hb hby d37_215) rfl) ?_
    refine own_fw (fun _ => ox_aloadN X37_14.here hx (hb hby d37_216) rfl rfl) ?_
    refine own_gf X37_14 hx hZ hown (own_w hw 56 rfl) Via.refl e37_14 (Fs.keep K37_10 (fun q => npn (List.mem_singleton.mp q))) (hb hby d37_217) rfl fun T37_15 X37_15 e37_15 => ?_
    refine own_fw (fun _ => ox_iloadN X37_15.here hx (hb hby d37_220) rfl) ?_
    refine own_fw (fun _ => ox_isub X37_15.here hx (hb hby d37_221) rfl) ?_
    obtain ⟨T37_16, h37_16, L37_16, X37_16, e37_16, N37_16, K37_16, Va37_16, st37_16⟩ := own_ac X37_15 hx hZ hown (own_w hw 218 rfl) (own_w hw 201 rfl) (own_w hw 199 rfl) (own_w hw 200 rfl) e37_15 (o := 1) (q := 2) (n := 0) fc37_11 fc37_11 (by decide) (by decide) (by decide) (by decide) (by decide) (fun i hi => absurd hi (Nat.not_lt_zero i)) N37_10 g_ta (g := (mkF m 222 #[.val (.ref r0), .val (.int p1), .val (.ref r2), .val (.int (1 : Int32)), .val (.int (0 : Int32))] [(.int (0 : Int32)), (.int (2 : Int32)), (.ref ta), (.int (1 : Int32)), (.ref ta)])) rfl (by rw [hml]; rfl) (rest := []) rfl (hb hby d37_222) (by decide) (W := 0) (own_mr rfl) (by decide)
    have V37_16 : Arv Z h37_16 ta kt (.object "java/lang/String") (16 : Int32) [(.ref t0), .null, .null, .null, .null, .null, .null, .null, .null, .null, .null, .null, .null, .null, .null, .null] .null := Va37_16
    refine own_fw (A := T37_16.setTop (mkF m 225 #[.val (.ref r0), .val (.int p1), .val (.ref r2), .val (.int (1 : Int32)), .val (.int (0 : Int32))] [])) st37_16 ?_
    have fc37_17 := ((Fn.keep K37_10 (fun q => npn (List.mem_singleton.mp q))).keep K37_16 (fun q => npt (List.mem_singleton.mp q)))
    have fc37_18 := ((Ft.keep K37_10 (fun q => npn (List.mem_singleton.mp q))).keep K37_16 (fun q => npt (List.mem_singleton.mp q)))
    have fc37_19 := ((Fs.keep K37_10 (fun q => npn (List.mem_singleton.mp q))).keep K37_16 (fun q => npt (List.mem_singleton.mp q)))
    have fc37_20 := ((Fv.keep K37_10 (fun q => npn (List.mem_singleton.mp q))).keep K37_16 (fun q => npt (List.mem_singleton.mp q)))
    have fc37_21 := (fc37_12.trans K37_16 (allS (Or.inl (List.mem_of_getElem? (i := 2) rfl)) all0))
    refine own_fw (fun _ => ox_aloadN X37_16.here hx (hb hby d37_225) rfl rfl) ?_
    refine own_gf X37_16 hx hZ hown (own_w hw 10 rfl) Via.refl e37_16 fc37_17 (hb hby d37_226) rfl fun T37_22 X37_22 e37_22 => ?_
    refine own_fw (fun _ => ox_iloadN X37_22.here hx (hb hby d37_229) rfl) ?_
    refine own_fw (fun _ => ox_iloadN X37_22.here hx (hb hby d37_230) rfl) ?_
    obtain ⟨cl37_23, Ar37_23, q37_23, S37_23, Ng37_23, Hs37_23, G37_23⟩ := id (V37_10.keep K37_16 (fun q => nt (List.mem_singleton.mp q)))
    have hin37_23 : ¬ ((1 : Int32) < 0 ∨ cl37_23.slots.size ≤ ((1 : Int32)).toNatClampNeg) := inb_of S37_23 ⟨by decide, by decide⟩
    obtain ⟨T37_23, h37_23, X37_23, e37_23, W37_23, st37_23⟩ := stI X37_22 hx hZ e37_22 Ar37_23 (j := (1 : Int32)) hin37_23 (g := (mkF m 231 #[.val (.ref r0), .val (.int p1), .val (.ref r2), .val (.int (1 : Int32)), .val (.int (0 : Int32))] [(.int p1), (.int (1 : Int32)), (.ref na)])) rfl rfl (hb hby d37_231)
    have V37_23 : Arv Z h37_23 na kn .int (16 : Int32) [(.int a), (.int p1), (.int (0 : Int32)), (.int (0 : Int32)), (.int (0 : Int32)), (.int (0 : Int32)), (.int (0 : Int32)), (.int (0 : Int32)), (.int (0 : Int32)), (.int (0 : Int32)), (.int (0 : Int32)), (.int (0 : Int32)), (.int (0 : Int32)), (.int (0 : Int32)), (.int (0 : Int32)), (.int (0 : Int32))] (.int 0) := Arv.set Ar37_23 q37_23 S37_23 Ng37_23 Hs37_23 G37_23 rfl W37_23 1 rfl (Nat.le_of_ble_eq_true rfl)
    have N37_23 := Fr.snoc X37_23 N37_16 g_na
    refine own_fw (A := T37_23.setTop (mkF m 232 #[.val (.ref r0), .val (.int p1), .val (.ref r2), .val (.int (1 : Int32)), .val (.int (0 : Int32))] [])) st37_23 ?_
    have fc37_24 := (fc37_21.wr W37_23 (Or.inl (List.mem_of_getElem? (i := 1) rfl)))
    refine own_fw (fun _ => ox_aloadN X37_23.here hx (hb hby d37_232) rfl rfl) ?_
    refine own_gf X37_23 hx hZ hown (own_w hw 14 rfl) Via.refl e37_23 (fc37_18.other W37_23 (Or.inl npn)) (hb hby d37_233) rfl fun T37_26 X37_26 e37_26 => ?_
    refine own_fw (fun _ => ox_iloadN X37_26.here hx (hb hby d37_236) rfl) ?_
    refine own_fw (fun _ => ox_aloadN X37_26.here hx (hb hby d37_237) rfl rfl) ?_
    obtain ⟨cl37_27, Ar37_27, q37_27, S37_27, Ng37_27, Hs37_27, G37_27⟩ := id (V37_16.other W37_23 (Ne.symm nt))
    have hin37_27 : ¬ ((1 : Int32) < 0 ∨ cl37_27.slots.size ≤ ((1 : Int32)).toNatClampNeg) := inb_of S37_27 ⟨by decide, by decide⟩
    obtain ⟨T37_27, h37_27, X37_27, e37_27, W37_27, st37_27⟩ := stR X37_26 hx hZ e37_26 Ar37_27 (j := (1 : Int32)) hin37_27 rfl (Sto.ofV Ar37_27 q37_27 Ov (Ins.self (((Es.keep K37_10).keep K37_16).wr W37_23))) (g := (mkF m 238 #[.val (.ref r0), .val (.int p1), .val (.ref r2), .val (.int (1 : Int32)), .val (.int (0 : Int32))] [(.ref r2), (.int (1 : Int32)), (.ref ta)])) rfl rfl (hb hby d37_238)
    have V37_27 : Arv Z h37_27 ta kt (.object "java/lang/String") (16 : Int32) [(.ref t0), (.ref r2), .null, .null, .null, .null, .null, .null, .null, .null, .null, .null, .null, .null, .null, .null] .null := Arv.set Ar37_27 q37_27 S37_27 Ng37_27 Hs37_27 G37_27 rfl W37_27 1 rfl (Nat.le_of_ble_eq_true rfl)
    have N37_27 := Fr.snoc X37_27 N37_23 g_ta
    refine own_fw (A := T37_27.setTop (mkF m 239 #[.val (.ref r0), .val (.int p1), .val (.ref r2), .val (.int (1 : Int32)), .val (.int (0 : Int32))] [])) st37_27 ?_
    have fc37_28 := ((fc37_17.other W37_23 (Or.inl npn)).other W37_27 (Or.inl npt))
    have fc37_29 := ((fc37_18.other W37_23 (Or.inl npn)).other W37_27 (Or.inl npt))
    have fc37_30 := ((fc37_19.other W37_23 (Or.inl npn)).other W37_27 (Or.inl npt))
    have fc37_31 := ((fc37_20.other W37_23 (Or.inl npn)).other W37_27 (Or.inl npt))
    have fc37_32 := (fc37_24.wr W37_27 (Or.inl (List.mem_of_getElem? (i := 2) rfl)))
    refine own_fw (fun _ => ox_aloadN X37_27.here hx (hb hby d37_239) rfl rfl) ?_
    refine own_fw (fun _ => ox_dup X37_27.here hx (hb hby d37_240) rfl rfl) ?_
    refine own_gf X37_27 hx hZ hown (own_w hw 56 rfl) Via.refl e37_27 fc37_30 (hb hby d37_241) rfl fun T37_33 X37_33 e37_33 => ?_
    refine own_fw (fun _ => ox_iconst X37_33.here hx (hb hby d37_244)) ?_
    refine own_fw (fun _ => ox_iadd X37_33.here hx (hb hby d37_245) rfl) ?_
    obtain ⟨T37_34, h37_34, X37_34, e37_34, W37_34, st37_34⟩ := putF X37_33 hx hZ hown (host := "") (Or.inl (own_w hw 56 rfl)) Via.refl e37_33 fc37_30 ((((Ep.keep K37_10).keep K37_16).wr W37_23).wr W37_27) (Or.inl (own_w hw 57 rfl)) (own_w hw 1 rfl) (ty := .int) (by decide) rfl rfl (g := (mkF m 246 #[.val (.ref r0), .val (.int p1), .val (.ref r2), .val (.int (1 : Int32)), .val (.int (0 : Int32))] [(.int (2 : Int32)), (.ref r0)])) rfl rfl (hb hby d37_246)
    have Fw37_34 := fc37_30.same W37_34
    have N37_34 := Fr.snoc X37_34 N37_27 g_r0
    refine own_fw (A := T37_34.setTop (mkF m 249 #[.val (.ref r0), .val (.int p1), .val (.ref r2), .val (.int (1 : Int32)), .val (.int (0 : Int32))] [])) st37_34 ?_
    have fc37_35 := (((((Ep.keep K37_10).keep K37_16).wr W37_23).wr W37_27).wr W37_34)
    have fc37_36 := (fc37_28.other W37_34 (Or.inr (slot_ne (Or.inl (own_w hw 11 rfl)) (Or.inl (own_w hw 57 rfl)) (by decide) (t := (.array .int)) (t' := .int) (by decide) (by decide))))
    have fc37_37 := (fc37_29.other W37_34 (Or.inr (slot_ne (Or.inl (own_w hw 15 rfl)) (Or.inl (own_w hw 57 rfl)) (by decide) (t := (.array (.object "java/lang/String"))) (t' := .int) (by decide) (by decide))))
    have fc37_38 := (fc37_31.other W37_34 (Or.inr (slot_ne (Or.inl (own_w hw 50 rfl)) (Or.inl (own_w hw 57 rfl)) (by decide) (t := .int) (t' := .int) (by decide) (by decide))))
    have fc37_39 := (((((En.keep K37_10).keep K37_16).wr W37_23).wr W37_27).wr W37_34)
    have fc37_40 := (((((Et.keep K37_10).keep K37_16).wr W37_23).wr W37_27).wr W37_34)
    have fc37_41 := (((((Es.keep K37_10).keep K37_16).wr W37_23).wr W37_27).wr W37_34)
    have fc37_42 := (((((Et0.keep K37_10).keep K37_16).wr W37_23).wr W37_27).wr W37_34)
    have fc37_43 := (fc37_32.wr W37_34 (Or.inl (List.mem_of_getElem? (i := 0) rfl)))
    refine own_fw (fun _ => ox_aloadN X37_34.here hx (hb hby d37_249) rfl rfl) ?_
    refine own_fw (fun _ => ox_dup X37_34.here hx (hb hby d37_250) rfl rfl) ?_
    refine own_gf X37_34 hx hZ hown (own_w hw 49 rfl) Via.refl e37_34 fc37_38 (hb hby d37_251) rfl fun T37_45 X37_45 e37_45 => ?_
    refine own_fw (fun _ => ox_iconst X37_45.here hx (hb hby d37_254)) ?_
    refine own_fw (fun _ => ox_iadd X37_45.here hx (hb hby d37_255) rfl) ?_
    obtain ⟨T37_46, h37_46, X37_46, e37_46, W37_46, st37_46⟩ := putF X37_45 hx hZ hown (host := "") (Or.inl (own_w hw 49 rfl)) Via.refl e37_45 fc37_38 fc37_35 (Or.inl (own_w hw 50 rfl)) (own_w hw 1 rfl) (ty := .int) (by decide) rfl rfl (g := (mkF m 256 #[.val (.ref r0), .val (.int p1), .val (.ref r2), .val (.int (1 : Int32)), .val (.int (0 : Int32))] [(.int (ver + (1 : Int32))), (.ref r0)])) rfl rfl (hb hby d37_256)
    have Fw37_46 := fc37_38.same W37_46
    have N37_46 := Fr.snoc X37_46 N37_34 g_r0
    refine own_fw (A := T37_46.setTop (mkF m 259 #[.val (.ref r0), .val (.int p1), .val (.ref r2), .val (.int (1 : Int32)), .val (.int (0 : Int32))] [])) st37_46 ?_
    have fc37_47 := (fc37_36.other W37_46 (Or.inr (slot_ne (Or.inl (own_w hw 11 rfl)) (Or.inl (own_w hw 50 rfl)) (by decide) (t := (.array .int)) (t' := .int) (by decide) (by decide))))
    have fc37_48 := (fc37_37.other W37_46 (Or.inr (slot_ne (Or.inl (own_w hw 15 rfl)) (Or.inl (own_w hw 50 rfl)) (by decide) (t := (.array (.object "java/lang/String"))) (t' := .int) (by decide) (by decide))))
    have fc37_49 := (Fw37_34.other W37_46 (Or.inr (slot_ne (Or.inl (own_w hw 57 rfl)) (Or.inl (own_w hw 50 rfl)) (by decide) (t := .int) (t' := .int) (by decide) (by decide))))
    have fc37_50 := (((V37_23.other W37_27 nt).other W37_34 (Ne.symm npn)).other W37_46 (Ne.symm npn))
    have fc37_51 := ((V37_27.other W37_34 (Ne.symm npt)).other W37_46 (Ne.symm npt))
    have fc37_52 := (fc37_43.wr W37_46 (Or.inl (List.mem_of_getElem? (i := 0) rfl)))
    exact own_leaf X37_46 (v := none) (fun _ => rfl) (BodyLoose.notSynchronized Bd) e37_46 (⟨rfl, N37_46, fc37_52, Or.inr ⟨a, p1, t0, r2, ha, hp, (fc37_42.wr W37_46), (fc37_41.wr W37_46), ⟨(fc37_35.wr W37_46), fc37_47, fc37_48, fc37_49, Fw37_46, fc37_50, fc37_51, (fc37_39.wr W37_46), (fc37_40.wr W37_46), Ov, nt⟩⟩⟩) (by decide) (by decide) (fun fs hr => X37_46.returnOut hx Bd.returns (hb hby d37_259) hr)
  · by_cases hc2 : p1 < a
    · refine own_fw (fun _ => ox_aloadN X0.here hx (hb hby d37_0) rfl rfl) ?_
      refine own_fw (fun _ => ox_iloadN X0.here hx (hb hby d37_1) rfl) ?_
      refine own_pc X0 hx hZ hown (rmPL_1b l Z a0 hw [] r0 p1 na kn a (0 : Int32) h0 n0 Z0 Fs Fn Vn hc1 hc2) (own_w hw 209 rfl) (own_w hw 211 rfl) (own_selP (y := mN1) (own_w hw 1 rfl) (own_w hw 211 rfl) (own_w hw 210 rfl) (by decide)) (own_w hw 210 rfl) (own_w hw 212 rfl) (own_w hw 2 rfl) (by decide) hml rfl Ep e0 (hb hby d37_2) rfl rfl (lenOf pd37_0 rfl) (W := 0) rfl (by decide) (by decide) (c' := 0) (s' := 0) rfl rfl (by decide) (by decide) ?_
      rintro _ T37_53 L37_53 X37_53 ⟨rfl, N37_53q, e37_53⟩
      have N37_53 := Fr.app N0 N37_53q
      refine own_fw (fun _ => ox_istoreN X37_53.here hx (hb hby d37_5) rfl (l' := #[.val (.ref r0), .val (.int p1), .val (.ref r2), .val (.int (0 : Int32)), .unset]) rfl) ?_
      refine own_fw (fun _ => ox_iloadN X37_53.here hx (hb hby d37_6) rfl) ?_
      refine own_fw (fun _ => ox_aloadN X37_53.here hx (hb hby d37_7) rfl rfl) ?_
      refine own_gf X37_53 hx hZ hown (own_w hw 56 rfl) Via.refl e37_53 Fs (hb hby d37_8) rfl fun T37_54 X37_54 e37_54 => ?_
      refine own_fw (fun _ => ox_icmpNo X37_54.here hx (hb hby d37_11) rfl (tlt (by decide : ((0 : Int32) < (1 : Int32)))).2.1) ?_
      refine own_fw (fun _ => ox_aloadN X37_54.here hx (hb hby d37_14) rfl rfl) ?_
      refine own_gf X37_54 hx hZ hown (own_w hw 10 rfl) Via.refl e37_54 Fn (hb hby d37_15) rfl fun T37_55 X37_55 e37_55 => ?_
      refine own_fw (fun _ => ox_iloadN X37_55.here hx (hb hby d37_18) rfl) ?_
      obtain ⟨cl37_56, Ar37_56, q37_56, S37_56, Ng37_56, Hs37_56, G37_56⟩ := id Vn
      have hin37_56 : ¬ ((0 : Int32) < 0 ∨ cl37_56.slots.size ≤ ((0 : Int32)).toNatClampNeg) := inb_of S37_56 ⟨by decide, by decide⟩
      refine own_fw (A := T37_55.setTop (mkF m 20 #[.val (.ref r0), .val (.int p1), .val (.ref r2), .val (.int (0 : Int32)), .unset] [(.int a)])) (X37_55.iaload hx (j := (0 : Int32)) (v := (.int a)) (by rw [e37_55]; exact Ar37_56.1) (State.isArrayOf_alike hZ.alike Ar37_56.2.1) Ar37_56.2.2 hin37_56 (Has.at Hs37_56 hin37_56 rfl) (g := (mkF m 19 #[.val (.ref r0), .val (.int p1), .val (.ref r2), .val (.int (0 : Int32)), .unset] [(.int (0 : Int32)), (.ref na)])) rfl rfl (hb hby d37_19)) ?_
      refine own_fw (fun _ => ox_iloadN X37_55.here hx (hb hby d37_20) rfl) ?_
      refine own_fw (fun _ => ox_icmpYes X37_55.here hx (pc0 := 21) (pc' := 28) rfl (hb hby d37_21) rfl (feq (fun q => own_ltne hc2 q)).2 (by decide) (by decide)) ?_
      refine own_fw (fun _ => ox_iconst X37_55.here hx (hb hby d37_28)) ?_
      refine own_fw (fun _ => ox_istore X37_55.here hx (hb hby d37_29) rfl (l' := #[.val (.ref r0), .val (.int p1), .val (.ref r2), .val (.int (0 : Int32)), .val (.int (0 : Int32))]) rfl) ?_
      refine own_fw (fun _ => ox_iload X37_55.here hx (hb hby d37_31) rfl) ?_
      refine own_fw (fun _ => ox_ifYes X37_55.here hx (pc0 := 33) (pc' := 112) rfl (hb hby d37_33) rfl ((if0 _ _).trans (teq (rfl : (0 : Int32) = (0 : Int32))).1) (by decide) (by decide)) ?_
      refine own_fw (fun _ => ox_iload X37_55.here hx (hb hby d37_112) rfl) ?_
      refine own_fw (fun _ => ox_ifYes X37_55.here hx (pc0 := 114) (pc' := 127) rfl (hb hby d37_114) rfl ((if0 _ _).trans (teq (rfl : (0 : Int32) = (0 : Int32))).1) (by decide) (by decide)) ?_
      refine own_fw (fun _ => ox_aloadN X37_55.here hx (hb hby d37_127) rfl rfl) ?_
      refine own_vc X37_55 hx hZ hown (rm39 l Z a0 hw [] r2 vb kb nn vs h0 n0 Z0 Sv Vs hn) (own_w hw 213 rfl) (own_w hw 214 rfl) (own_w hw 216 rfl) (own_w hw 215 rfl) (own_w hw 217 rfl) (own_w hw 19 rfl) (by decide) hml rfl Es e37_55 (hb hby d37_128) rfl rfl (lenOf pd37_1 rfl) (W := 0) rfl (by decide) (by decide) (c' := 0) (s' := 0) rfl rfl (by decide) (by decide) ?_
      rintro _ T37_57 L37_57 X37_57 ⟨rfl, N37_57q, e37_57⟩
      have N37_57 := Fr.app N37_53 N37_57q
      refine own_fw (fun _ => ox_ifNo X37_57.here hx (hb hby d37_131) rfl ((if0 _ _).trans (teq (rfl : (0 : Int32) = (0 : Int32))).2)) ?_
      refine own_fw (fun _ => ox_aloadN X37_57.here hx (hb hby d37_134) rfl rfl) ?_
      refine own_gf X37_57 hx hZ hown (own_w hw 56 rfl) Via.refl e37_57 Fs (hb hby d37_135) rfl fun T37_58 X37_58 e37_58 => ?_
      refine own_fw (fun _ => ox_aloadN X37_58.here hx (hb hby d37_138) rfl rfl) ?_
      refine own_gf X37_58 hx hZ hown (own_w hw 10 rfl) Via.refl e37_58 Fn (hb hby d37_139) rfl fun T37_59 X37_59 e37_59 => ?_
      obtain ⟨cl37_60, Ar37_60, q37_60, S37_60, Ng37_60, Hs37_60, G37_60⟩ := id Vn
      have st37_60 := X37_59.arraylength hx (by rw [e37_59]; exact Ar37_60.1) (State.isArrayOf_alike hZ.alike Ar37_60.2.1) (g := (mkF m 142 #[.val (.ref r0), .val (.int p1), .val (.ref r2), .val (.int (0 : Int32)), .val (.int (0 : Int32))] [(.ref na), (.int (1 : Int32))])) rfl rfl (hb hby d37_142)
      rw [len_of S37_60 Ng37_60] at st37_60
      refine own_fw (A := T37_59.setTop (mkF m 143 #[.val (.ref r0), .val (.int p1), .val (.ref r2), .val (.int (0 : Int32)), .val (.int (0 : Int32))] [(.int (16 : Int32)), (.int (1 : Int32))])) st37_60 ?_
      refine own_fw (fun _ => ox_icmpYes X37_59.here hx (pc0 := 143) (pc' := 183) rfl (hb hby d37_143) rfl (feq (by decide : ¬ ((1 : Int32) = (16 : Int32)))).2 (by decide) (by decide)) ?_
      refine own_fw (fun _ => ox_aloadN X37_59.here hx (hb hby d37_183) rfl rfl) ?_
      refine own_gf X37_59 hx hZ hown (own_w hw 10 rfl) Via.refl e37_59 Fn (hb hby d37_184) rfl fun T37_61 X37_61 e37_61 => ?_
      refine own_fw (fun _ => ox_iloadN X37_61.here hx (hb hby d37_187) rfl) ?_
      refine own_fw (fun _ => ox_aloadN X37_61.here hx (hb hby d37_188) rfl rfl) ?_
      refine own_gf X37_61 hx hZ hown (own_w hw 10 rfl) Via.refl e37_61 Fn (hb hby d37_189) rfl fun T37_62 X37_62 e37_62 => ?_
      refine own_fw (fun _ => ox_iloadN X37_62.here hx (hb hby d37_192) rfl) ?_
      refine own_fw (fun _ => ox_iconst X37_62.here hx (hb hby d37_193)) ?_
      refine own_fw (fun _ => ox_iadd X37_62.here hx (hb hby d37_194) rfl) ?_
      refine own_fw (fun _ => ox_aloadN X37_62.here hx (hb hby d37_195) rfl rfl) ?_
      refine own_gf X37_62 hx hZ hown (own_w hw 56 rfl) Via.refl e37_62 Fs (hb hby d37_196) rfl fun T37_63 X37_63 e37_63 => ?_
      refine own_fw (fun _ => ox_iloadN X37_63.here hx (hb hby d37_199) rfl) ?_
      refine own_fw (fun _ => ox_isub X37_63.here hx (hb hby d37_200) rfl) ?_
      have tk37_64 : ∀ i, i < 1 → ∀ x, ([(.int a), (.int (0 : Int32)), (.int (0 : Int32)), (.int (0 : Int32)), (.int (0 : Int32)), (.int (0 : Int32)), (.int (0 : Int32)), (.int (0 : Int32)), (.int (0 : Int32)), (.int (0 : Int32)), (.int (0 : Int32)), (.int (0 : Int32)), (.int (0 : Int32)), (.int (0 : Int32)), (.int (0 : Int32)), (.int (0 : Int32))] : List Value).getD (0 + i) (.int 0) = .ref x → Sto Z h0 na (.ref x) := by
        intro i hi x hx
        match i, hi with
        | 0, _ => cases hx
        | (j + 1), hj => omega
      obtain ⟨T37_64, h37_64, L37_64, X37_64, e37_64, N37_64, K37_64, Va37_64, st37_64⟩ := own_ac X37_63 hx hZ hown (own_w hw 218 rfl) (own_w hw 201 rfl) (own_w hw 199 rfl) (own_w hw 200 rfl) e37_63 (o := 0) (q := 1) (n := 1) Vn Vn (by decide) (by decide) (by decide) (by decide) (by decide) tk37_64 N37_57 g_na (g := (mkF m 201 #[.val (.ref r0), .val (.int p1), .val (.ref r2), .val (.int (0 : Int32)), .val (.int (0 : Int32))] [(.int (1 : Int32)), (.int (1 : Int32)), (.ref na), (.int (0 : Int32)), (.ref na)])) rfl (by rw [hml]; rfl) (rest := []) rfl (hb hby d37_201) (by decide) (W := 0) (own_mr rfl) (by decide)
      have V37_64 : Arv Z h37_64 na kn .int (16 : Int32) [(.int a), (.int a), (.int (0 : Int32)), (.int (0 : Int32)), (.int (0 : Int32)), (.int (0 : Int32)), (.int (0 : Int32)), (.int (0 : Int32)), (.int (0 : Int32)), (.int (0 : Int32)), (.int (0 : Int32)), (.int (0 : Int32)), (.int (0 : Int32)), (.int (0 : Int32)), (.int (0 : Int32)), (.int (0 : Int32))] (.int 0) := Va37_64
      refine own_fw (A := T37_64.setTop (mkF m 204 #[.val (.ref r0), .val (.int p1), .val (.ref r2), .val (.int (0 : Int32)), .val (.int (0 : Int32))] [])) st37_64 ?_
      have fc37_65 := (Vt.keep K37_64 (fun q => (Ne.symm nt) (List.mem_singleton.mp q)))
      have fc37_66 := ((Keep.refl h0 [r0, na, ta]).trans K37_64 (allS (Or.inl (List.mem_of_getElem? (i := 1) rfl)) all0))
      refine own_fw (fun _ => ox_aloadN X37_64.here hx (hb hby d37_204) rfl rfl) ?_
      refine own_gf X37_64 hx hZ hown (own_w hw 14 rfl) Via.refl e37_64 (Ft.keep K37_64 (fun q => npn (List.mem_singleton.mp q))) (hb hby d37_205) rfl fun T37_67 X37_67 e37_67 => ?_
      refine own_fw (fun _ => ox_iloadN X37_67.here hx (hb hby d37_208) rfl) ?_
      refine own_fw (fun _ => ox_aloadN X37_67.here hx (hb hby d37_209) rfl rfl) ?_
      refine own_gf X37_67 hx hZ hown (own_w hw 14 rfl) Via.refl e37_67 (Ft.keep K37_64 (fun q => npn (List.mem_singleton.mp q))) (hb hby d37_210) rfl fun T37_68 X37_68 e37_68 => ?_
      refine own_fw (fun _ => ox_iloadN X37_68.here hx (hb hby d37_213) rfl) ?_
      refine own_fw (fun _ => ox_iconst X37_68.here hx (hb hby d37_214)) ?_
      refine own_fw (fun _ => ox_iadd X37_68.here hx (hb hby d37_215) rfl) ?_
      refine own_fw (fun _ => ox_aloadN X37_68.here hx (hb hby d37_216) rfl rfl) ?_
      refine own_gf X37_68 hx hZ hown (own_w hw 56 rfl) Via.refl e37_68 (Fs.keep K37_64 (fun q => npn (List.mem_singleton.mp q))) (hb hby d37_217) rfl fun T37_69 X37_69 e37_69 => ?_
      refine own_fw (fun _ => ox_iloadN X37_69.here hx (hb hby d37_220) rfl) ?_
      refine own_fw (fun _ => ox_isub X37_69.here hx (hb hby d37_221) rfl) ?_
      have tk37_70 : ∀ i, i < 1 → ∀ x, ([(.ref t0), .null, .null, .null, .null, .null, .null, .null, .null, .null, .null, .null, .null, .null, .null, .null] : List Value).getD (0 + i) .null = .ref x → Sto Z h37_64 ta (.ref x) := by
        obtain ⟨cq, Aq, qq, -⟩ := id fc37_65
        intro i hi x hx
        match i, hi with
        | 0, _ => cases hx; exact Sto.ofV Aq qq Ov (Ins.self (Et0.keep K37_64))
        | (j + 1), hj => omega
      obtain ⟨T37_70, h37_70, L37_70, X37_70, e37_70, N37_70, K37_70, Va37_70, st37_70⟩ := own_ac X37_69 hx hZ hown (own_w hw 218 rfl) (own_w hw 201 rfl) (own_w hw 199 rfl) (own_w hw 200 rfl) e37_69 (o := 0) (q := 1) (n := 1) fc37_65 fc37_65 (by decide) (by decide) (by decide) (by decide) (by decide) tk37_70 N37_64 g_ta (g := (mkF m 222 #[.val (.ref r0), .val (.int p1), .val (.ref r2), .val (.int (0 : Int32)), .val (.int (0 : Int32))] [(.int (1 : Int32)), (.int (1 : Int32)), (.ref ta), (.int (0 : Int32)), (.ref ta)])) rfl (by rw [hml]; rfl) (rest := []) rfl (hb hby d37_222) (by decide) (W := 0) (own_mr rfl) (by decide)
      have V37_70 : Arv Z h37_70 ta kt (.object "java/lang/String") (16 : Int32) [(.ref t0), (.ref t0), .null, .null, .null, .null, .null, .null, .null, .null, .null, .null, .null, .null, .null, .null] .null := Va37_70
      refine own_fw (A := T37_70.setTop (mkF m 225 #[.val (.ref r0), .val (.int p1), .val (.ref r2), .val (.int (0 : Int32)), .val (.int (0 : Int32))] [])) st37_70 ?_
      have fc37_71 := ((Fn.keep K37_64 (fun q => npn (List.mem_singleton.mp q))).keep K37_70 (fun q => npt (List.mem_singleton.mp q)))
      have fc37_72 := ((Ft.keep K37_64 (fun q => npn (List.mem_singleton.mp q))).keep K37_70 (fun q => npt (List.mem_singleton.mp q)))
      have fc37_73 := ((Fs.keep K37_64 (fun q => npn (List.mem_singleton.mp q))).keep K37_70 (fun q => npt (List.mem_singleton.mp q)))
      have fc37_74 := ((Fv.keep K37_64 (fun q => npn (List.mem_singleton.mp q))).keep K37_70 (fun q => npt (List.mem_singleton.mp q)))
      have fc37_75 := (fc37_66.trans K37_70 (allS (Or.inl (List.mem_of_getElem? (i := 2) rfl)) all0))
      refine own_fw (fun _ => ox_aloadN X37_70.here hx (hb hby d37_225) rfl rfl) ?_
      refine own_gf X37_70 hx hZ hown (own_w hw 10 rfl) Via.refl e37_70 fc37_71 (hb hby d37_226) rfl fun T37_76 X37_76 e37_76 => ?_
      refine own_fw (fun _ => ox_iloadN X37_76.here hx (hb hby d37_229) rfl) ?_
      refine own_fw (fun _ => ox_iloadN X37_76.here hx (hb hby d37_230) rfl) ?_
      obtain ⟨cl37_77, Ar37_77, q37_77, S37_77, Ng37_77, Hs37_77, G37_77⟩ := id (V37_64.keep K37_70 (fun q => nt (List.mem_singleton.mp q)))
      have hin37_77 : ¬ ((0 : Int32) < 0 ∨ cl37_77.slots.size ≤ ((0 : Int32)).toNatClampNeg) := inb_of S37_77 ⟨by decide, by decide⟩
      obtain ⟨T37_77, h37_77, X37_77, e37_77, W37_77, st37_77⟩ := stI X37_76 hx hZ e37_76 Ar37_77 (j := (0 : Int32)) hin37_77 (g := (mkF m 231 #[.val (.ref r0), .val (.int p1), .val (.ref r2), .val (.int (0 : Int32)), .val (.int (0 : Int32))] [(.int p1), (.int (0 : Int32)), (.ref na)])) rfl rfl (hb hby d37_231)
      have V37_77 : Arv Z h37_77 na kn .int (16 : Int32) [(.int p1), (.int a), (.int (0 : Int32)), (.int (0 : Int32)), (.int (0 : Int32)), (.int (0 : Int32)), (.int (0 : Int32)), (.int (0 : Int32)), (.int (0 : Int32)), (.int (0 : Int32)), (.int (0 : Int32)), (.int (0 : Int32)), (.int (0 : Int32)), (.int (0 : Int32)), (.int (0 : Int32)), (.int (0 : Int32))] (.int 0) := Arv.set Ar37_77 q37_77 S37_77 Ng37_77 Hs37_77 G37_77 rfl W37_77 0 rfl (Nat.le_of_ble_eq_true rfl)
      have N37_77 := Fr.snoc X37_77 N37_70 g_na
      refine own_fw (A := T37_77.setTop (mkF m 232 #[.val (.ref r0), .val (.int p1), .val (.ref r2), .val (.int (0 : Int32)), .val (.int (0 : Int32))] [])) st37_77 ?_
      have fc37_78 := (fc37_75.wr W37_77 (Or.inl (List.mem_of_getElem? (i := 1) rfl)))
      refine own_fw (fun _ => ox_aloadN X37_77.here hx (hb hby d37_232) rfl rfl) ?_
      refine own_gf X37_77 hx hZ hown (own_w hw 14 rfl) Via.refl e37_77 (fc37_72.other W37_77 (Or.inl npn)) (hb hby d37_233) rfl fun T37_80 X37_80 e37_80 => ?_
      refine own_fw (fun _ => ox_iloadN X37_80.here hx (hb hby d37_236) rfl) ?_
      refine own_fw (fun _ => ox_aloadN X37_80.here hx (hb hby d37_237) rfl rfl) ?_
      obtain ⟨cl37_81, Ar37_81, q37_81, S37_81, Ng37_81, Hs37_81, G37_81⟩ := id (V37_70.other W37_77 (Ne.symm nt))
      have hin37_81 : ¬ ((0 : Int32) < 0 ∨ cl37_81.slots.size ≤ ((0 : Int32)).toNatClampNeg) := inb_of S37_81 ⟨by decide, by decide⟩
      obtain ⟨T37_81, h37_81, X37_81, e37_81, W37_81, st37_81⟩ := stR X37_80 hx hZ e37_80 Ar37_81 (j := (0 : Int32)) hin37_81 rfl (Sto.ofV Ar37_81 q37_81 Ov (Ins.self (((Es.keep K37_64).keep K37_70).wr W37_77))) (g := (mkF m 238 #[.val (.ref r0), .val (.int p1), .val (.ref r2), .val (.int (0 : Int32)), .val (.int (0 : Int32))] [(.ref r2), (.int (0 : Int32)), (.ref ta)])) rfl rfl (hb hby d37_238)
      have V37_81 : Arv Z h37_81 ta kt (.object "java/lang/String") (16 : Int32) [(.ref r2), (.ref t0), .null, .null, .null, .null, .null, .null, .null, .null, .null, .null, .null, .null, .null, .null] .null := Arv.set Ar37_81 q37_81 S37_81 Ng37_81 Hs37_81 G37_81 rfl W37_81 0 rfl (Nat.le_of_ble_eq_true rfl)
      have N37_81 := Fr.snoc X37_81 N37_77 g_ta
      refine own_fw (A := T37_81.setTop (mkF m 239 #[.val (.ref r0), .val (.int p1), .val (.ref r2), .val (.int (0 : Int32)), .val (.int (0 : Int32))] [])) st37_81 ?_
      have fc37_82 := ((fc37_71.other W37_77 (Or.inl npn)).other W37_81 (Or.inl npt))
      have fc37_83 := ((fc37_72.other W37_77 (Or.inl npn)).other W37_81 (Or.inl npt))
      have fc37_84 := ((fc37_73.other W37_77 (Or.inl npn)).other W37_81 (Or.inl npt))
      have fc37_85 := ((fc37_74.other W37_77 (Or.inl npn)).other W37_81 (Or.inl npt))
      have fc37_86 := (fc37_78.wr W37_81 (Or.inl (List.mem_of_getElem? (i := 2) rfl)))
      refine own_fw (fun _ => ox_aloadN X37_81.here hx (hb hby d37_239) rfl rfl) ?_
      refine own_fw (fun _ => ox_dup X37_81.here hx (hb hby d37_240) rfl rfl) ?_
      refine own_gf X37_81 hx hZ hown (own_w hw 56 rfl) Via.refl e37_81 fc37_84 (hb hby d37_241) rfl fun T37_87 X37_87 e37_87 => ?_
      refine own_fw (fun _ => ox_iconst X37_87.here hx (hb hby d37_244)) ?_
      refine own_fw (fun _ => ox_iadd X37_87.here hx (hb hby d37_245) rfl) ?_
      obtain ⟨T37_88, h37_88, X37_88, e37_88, W37_88, st37_88⟩ := putF X37_87 hx hZ hown (host := "") (Or.inl (own_w hw 56 rfl)) Via.refl e37_87 fc37_84 ((((Ep.keep K37_64).keep K37_70).wr W37_77).wr W37_81) (Or.inl (own_w hw 57 rfl)) (own_w hw 1 rfl) (ty := .int) (by decide) rfl rfl (g := (mkF m 246 #[.val (.ref r0), .val (.int p1), .val (.ref r2), .val (.int (0 : Int32)), .val (.int (0 : Int32))] [(.int (2 : Int32)), (.ref r0)])) rfl rfl (hb hby d37_246)
      have Fw37_88 := fc37_84.same W37_88
      have N37_88 := Fr.snoc X37_88 N37_81 g_r0
      refine own_fw (A := T37_88.setTop (mkF m 249 #[.val (.ref r0), .val (.int p1), .val (.ref r2), .val (.int (0 : Int32)), .val (.int (0 : Int32))] [])) st37_88 ?_
      have fc37_89 := (((((Ep.keep K37_64).keep K37_70).wr W37_77).wr W37_81).wr W37_88)
      have fc37_90 := (fc37_82.other W37_88 (Or.inr (slot_ne (Or.inl (own_w hw 11 rfl)) (Or.inl (own_w hw 57 rfl)) (by decide) (t := (.array .int)) (t' := .int) (by decide) (by decide))))
      have fc37_91 := (fc37_83.other W37_88 (Or.inr (slot_ne (Or.inl (own_w hw 15 rfl)) (Or.inl (own_w hw 57 rfl)) (by decide) (t := (.array (.object "java/lang/String"))) (t' := .int) (by decide) (by decide))))
      have fc37_92 := (fc37_85.other W37_88 (Or.inr (slot_ne (Or.inl (own_w hw 50 rfl)) (Or.inl (own_w hw 57 rfl)) (by decide) (t := .int) (t' := .int) (by decide) (by decide))))
      have fc37_93 := (((((En.keep K37_64).keep K37_70).wr W37_77).wr W37_81).wr W37_88)
      have fc37_94 := (((((Et.keep K37_64).keep K37_70).wr W37_77).wr W37_81).wr W37_88)
      have fc37_95 := (((((Es.keep K37_64).keep K37_70).wr W37_77).wr W37_81).wr W37_88)
      have fc37_96 := (((((Et0.keep K37_64).keep K37_70).wr W37_77).wr W37_81).wr W37_88)
      have fc37_97 := (fc37_86.wr W37_88 (Or.inl (List.mem_of_getElem? (i := 0) rfl)))
      refine own_fw (fun _ => ox_aloadN X37_88.here hx (hb hby d37_249) rfl rfl) ?_
      refine own_fw (fun _ => ox_dup X37_88.here hx (hb hby d37_250) rfl rfl) ?_
      refine own_gf X37_88 hx hZ hown (own_w hw 49 rfl) Via.refl e37_88 fc37_92 (hb hby d37_251) rfl fun T37_99 X37_99 e37_99 => ?_
      refine own_fw (fun _ => ox_iconst X37_99.here hx (hb hby d37_254)) ?_
      refine own_fw (fun _ => ox_iadd X37_99.here hx (hb hby d37_255) rfl) ?_
      obtain ⟨T37_100, h37_100, X37_100, e37_100, W37_100, st37_100⟩ := putF X37_99 hx hZ hown (host := "") (Or.inl (own_w hw 49 rfl)) Via.refl e37_99 fc37_92 fc37_89 (Or.inl (own_w hw 50 rfl)) (own_w hw 1 rfl) (ty := .int) (by decide) rfl rfl (g := (mkF m 256 #[.val (.ref r0), .val (.int p1), .val (.ref r2), .val (.int (0 : Int32)), .val (.int (0 : Int32))] [(.int (ver + (1 : Int32))), (.ref r0)])) rfl rfl (hb hby d37_256)
      have Fw37_100 := fc37_92.same W37_100
      have N37_100 := Fr.snoc X37_100 N37_88 g_r0
      refine own_fw (A := T37_100.setTop (mkF m 259 #[.val (.ref r0), .val (.int p1), .val (.ref r2), .val (.int (0 : Int32)), .val (.int (0 : Int32))] [])) st37_100 ?_
      have fc37_101 := (fc37_90.other W37_100 (Or.inr (slot_ne (Or.inl (own_w hw 11 rfl)) (Or.inl (own_w hw 50 rfl)) (by decide) (t := (.array .int)) (t' := .int) (by decide) (by decide))))
      have fc37_102 := (fc37_91.other W37_100 (Or.inr (slot_ne (Or.inl (own_w hw 15 rfl)) (Or.inl (own_w hw 50 rfl)) (by decide) (t := (.array (.object "java/lang/String"))) (t' := .int) (by decide) (by decide))))
      have fc37_103 := (Fw37_88.other W37_100 (Or.inr (slot_ne (Or.inl (own_w hw 57 rfl)) (Or.inl (own_w hw 50 rfl)) (by decide) (t := .int) (t' := .int) (by decide) (by decide))))
      have fc37_104 := (((V37_77.other W37_81 nt).other W37_88 (Ne.symm npn)).other W37_100 (Ne.symm npn))
      have fc37_105 := ((V37_81.other W37_88 (Ne.symm npt)).other W37_100 (Ne.symm npt))
      have fc37_106 := (fc37_97.wr W37_100 (Or.inl (List.mem_of_getElem? (i := 0) rfl)))
      exact own_leaf X37_100 (v := none) (fun _ => rfl) (BodyLoose.notSynchronized Bd) e37_100 (⟨rfl, N37_100, fc37_106, Or.inr ⟨p1, a, r2, t0, hp, ha, (fc37_95.wr W37_100), (fc37_96.wr W37_100), ⟨(fc37_89.wr W37_100), fc37_101, fc37_102, fc37_103, Fw37_100, fc37_104, fc37_105, (fc37_93.wr W37_100), (fc37_94.wr W37_100), Ov, nt⟩⟩⟩) (by decide) (by decide) (fun fs hr => X37_100.returnOut hx Bd.returns (hb hby d37_259) hr)
    · refine own_fw (fun _ => ox_aloadN X0.here hx (hb hby d37_0) rfl rfl) ?_
      refine own_fw (fun _ => ox_iloadN X0.here hx (hb hby d37_1) rfl) ?_
      refine own_pc X0 hx hZ hown (rmPL_1c l Z a0 hw [] r0 p1 na kn a (0 : Int32) h0 n0 Z0 Fs Fn Vn hc1 hc2) (own_w hw 209 rfl) (own_w hw 211 rfl) (own_selP (y := mN1) (own_w hw 1 rfl) (own_w hw 211 rfl) (own_w hw 210 rfl) (by decide)) (own_w hw 210 rfl) (own_w hw 212 rfl) (own_w hw 2 rfl) (by decide) hml rfl Ep e0 (hb hby d37_2) rfl rfl (lenOf pd37_0 rfl) (W := 0) rfl (by decide) (by decide) (c' := 0) (s' := 0) rfl rfl (by decide) (by decide) ?_
      rintro _ T37_107 L37_107 X37_107 ⟨rfl, N37_107q, e37_107⟩
      have N37_107 := Fr.app N0 N37_107q
      refine own_fw (fun _ => ox_istoreN X37_107.here hx (hb hby d37_5) rfl (l' := #[.val (.ref r0), .val (.int p1), .val (.ref r2), .val (.int (0 : Int32)), .unset]) rfl) ?_
      refine own_fw (fun _ => ox_iloadN X37_107.here hx (hb hby d37_6) rfl) ?_
      refine own_fw (fun _ => ox_aloadN X37_107.here hx (hb hby d37_7) rfl rfl) ?_
      refine own_gf X37_107 hx hZ hown (own_w hw 56 rfl) Via.refl e37_107 Fs (hb hby d37_8) rfl fun T37_108 X37_108 e37_108 => ?_
      refine own_fw (fun _ => ox_icmpNo X37_108.here hx (hb hby d37_11) rfl (tlt (by decide : ((0 : Int32) < (1 : Int32)))).2.1) ?_
      refine own_fw (fun _ => ox_aloadN X37_108.here hx (hb hby d37_14) rfl rfl) ?_
      refine own_gf X37_108 hx hZ hown (own_w hw 10 rfl) Via.refl e37_108 Fn (hb hby d37_15) rfl fun T37_109 X37_109 e37_109 => ?_
      refine own_fw (fun _ => ox_iloadN X37_109.here hx (hb hby d37_18) rfl) ?_
      obtain ⟨cl37_110, Ar37_110, q37_110, S37_110, Ng37_110, Hs37_110, G37_110⟩ := id Vn
      have hin37_110 : ¬ ((0 : Int32) < 0 ∨ cl37_110.slots.size ≤ ((0 : Int32)).toNatClampNeg) := inb_of S37_110 ⟨by decide, by decide⟩
      refine own_fw (A := T37_109.setTop (mkF m 20 #[.val (.ref r0), .val (.int p1), .val (.ref r2), .val (.int (0 : Int32)), .unset] [(.int a)])) (X37_109.iaload hx (j := (0 : Int32)) (v := (.int a)) (by rw [e37_109]; exact Ar37_110.1) (State.isArrayOf_alike hZ.alike Ar37_110.2.1) Ar37_110.2.2 hin37_110 (Has.at Hs37_110 hin37_110 rfl) (g := (mkF m 19 #[.val (.ref r0), .val (.int p1), .val (.ref r2), .val (.int (0 : Int32)), .unset] [(.int (0 : Int32)), (.ref na)])) rfl rfl (hb hby d37_19)) ?_
      refine own_fw (fun _ => ox_iloadN X37_109.here hx (hb hby d37_20) rfl) ?_
      refine own_fw (fun _ => ox_icmpNo X37_109.here hx (hb hby d37_21) rfl (teq (own_le2 hc1 hc2)).2) ?_
      refine own_fw (fun _ => ox_iconst X37_109.here hx (hb hby d37_24)) ?_
      refine own_fw (fun _ => ox_goto X37_109.here hx (pc0 := 25) (pc' := 29) rfl (hb hby d37_25) (by decide) (by decide)) ?_
      refine own_fw (fun _ => ox_istore X37_109.here hx (hb hby d37_29) rfl (l' := #[.val (.ref r0), .val (.int p1), .val (.ref r2), .val (.int (0 : Int32)), .val (.int (1 : Int32))]) rfl) ?_
      refine own_fw (fun _ => ox_iload X37_109.here hx (hb hby d37_31) rfl) ?_
      refine own_fw (fun _ => ox_ifNo X37_109.here hx (hb hby d37_33) rfl ((if0 _ _).trans (feq (by decide : ¬ ((1 : Int32) = (0 : Int32)))).1)) ?_
      refine own_fw (fun _ => ox_aloadN X37_109.here hx (hb hby d37_36) rfl rfl) ?_
      refine own_vc X37_109 hx hZ hown (rm39 l Z a0 hw [] r2 vb kb nn vs h0 n0 Z0 Sv Vs hn) (own_w hw 213 rfl) (own_w hw 214 rfl) (own_w hw 216 rfl) (own_w hw 215 rfl) (own_w hw 217 rfl) (own_w hw 19 rfl) (by decide) hml rfl Es e37_109 (hb hby d37_37) rfl rfl (lenOf pd37_1 rfl) (W := 0) rfl (by decide) (by decide) (c' := 0) (s' := 0) rfl rfl (by decide) (by decide) ?_
      rintro _ T37_111 L37_111 X37_111 ⟨rfl, N37_111q, e37_111⟩
      have N37_111 := Fr.app N37_107 N37_111q
      refine own_fw (fun _ => ox_ifYes X37_111.here hx (pc0 := 40) (pc' := 112) rfl (hb hby d37_40) rfl ((if0 _ _).trans (teq (rfl : (0 : Int32) = (0 : Int32))).1) (by decide) (by decide)) ?_
      refine own_fw (fun _ => ox_iload X37_111.here hx (hb hby d37_112) rfl) ?_
      refine own_fw (fun _ => ox_ifNo X37_111.here hx (hb hby d37_114) rfl ((if0 _ _).trans (feq (by decide : ¬ ((1 : Int32) = (0 : Int32)))).1)) ?_
      refine own_fw (fun _ => ox_aloadN X37_111.here hx (hb hby d37_117) rfl rfl) ?_
      refine own_gf X37_111 hx hZ hown (own_w hw 14 rfl) Via.refl e37_111 Ft (hb hby d37_118) rfl fun T37_112 X37_112 e37_112 => ?_
      refine own_fw (fun _ => ox_iloadN X37_112.here hx (hb hby d37_121) rfl) ?_
      refine own_fw (fun _ => ox_aloadN X37_112.here hx (hb hby d37_122) rfl rfl) ?_
      obtain ⟨cl37_113, Ar37_113, q37_113, S37_113, Ng37_113, Hs37_113, G37_113⟩ := id Vt
      have hin37_113 : ¬ ((0 : Int32) < 0 ∨ cl37_113.slots.size ≤ ((0 : Int32)).toNatClampNeg) := inb_of S37_113 ⟨by decide, by decide⟩
      obtain ⟨T37_113, h37_113, X37_113, e37_113, W37_113, st37_113⟩ := stR X37_112 hx hZ e37_112 Ar37_113 (j := (0 : Int32)) hin37_113 rfl (Sto.ofV Ar37_113 q37_113 Ov (Ins.self Es)) (g := (mkF m 123 #[.val (.ref r0), .val (.int p1), .val (.ref r2), .val (.int (0 : Int32)), .val (.int (1 : Int32))] [(.ref r2), (.int (0 : Int32)), (.ref ta)])) rfl rfl (hb hby d37_123)
      have V37_113 : Arv Z h37_113 ta kt (.object "java/lang/String") (16 : Int32) [(.ref r2), .null, .null, .null, .null, .null, .null, .null, .null, .null, .null, .null, .null, .null, .null, .null] .null := Arv.set Ar37_113 q37_113 S37_113 Ng37_113 Hs37_113 G37_113 rfl W37_113 0 rfl (Nat.le_of_ble_eq_true rfl)
      have N37_113 := Fr.snoc X37_113 N37_111 g_ta
      refine own_fw (A := T37_113.setTop (mkF m 124 #[.val (.ref r0), .val (.int p1), .val (.ref r2), .val (.int (0 : Int32)), .val (.int (1 : Int32))] [])) st37_113 ?_
      have fc37_114 := ((Keep.refl h0 [r0, na, ta]).wr W37_113 (Or.inl (List.mem_of_getElem? (i := 2) rfl)))
      refine own_fw (fun _ => ox_goto X37_113.here hx (pc0 := 124) (pc' := 249) rfl (hb hby d37_124) (by decide) (by decide)) ?_
      refine own_fw (fun _ => ox_aloadN X37_113.here hx (hb hby d37_249) rfl rfl) ?_
      refine own_fw (fun _ => ox_dup X37_113.here hx (hb hby d37_250) rfl rfl) ?_
      refine own_gf X37_113 hx hZ hown (own_w hw 49 rfl) Via.refl e37_113 (Fv.other W37_113 (Or.inl npt)) (hb hby d37_251) rfl fun T37_115 X37_115 e37_115 => ?_
      refine own_fw (fun _ => ox_iconst X37_115.here hx (hb hby d37_254)) ?_
      refine own_fw (fun _ => ox_iadd X37_115.here hx (hb hby d37_255) rfl) ?_
      obtain ⟨T37_116, h37_116, X37_116, e37_116, W37_116, st37_116⟩ := putF X37_115 hx hZ hown (host := "") (Or.inl (own_w hw 49 rfl)) Via.refl e37_115 (Fv.other W37_113 (Or.inl npt)) (Ep.wr W37_113) (Or.inl (own_w hw 50 rfl)) (own_w hw 1 rfl) (ty := .int) (by decide) rfl rfl (g := (mkF m 256 #[.val (.ref r0), .val (.int p1), .val (.ref r2), .val (.int (0 : Int32)), .val (.int (1 : Int32))] [(.int (ver + (1 : Int32))), (.ref r0)])) rfl rfl (hb hby d37_256)
      have Fw37_116 := (Fv.other W37_113 (Or.inl npt)).same W37_116
      have N37_116 := Fr.snoc X37_116 N37_113 g_r0
      refine own_fw (A := T37_116.setTop (mkF m 259 #[.val (.ref r0), .val (.int p1), .val (.ref r2), .val (.int (0 : Int32)), .val (.int (1 : Int32))] [])) st37_116 ?_
      have fc37_117 := ((Fn.other W37_113 (Or.inl npt)).other W37_116 (Or.inr (slot_ne (Or.inl (own_w hw 11 rfl)) (Or.inl (own_w hw 50 rfl)) (by decide) (t := (.array .int)) (t' := .int) (by decide) (by decide))))
      have fc37_118 := ((Ft.other W37_113 (Or.inl npt)).other W37_116 (Or.inr (slot_ne (Or.inl (own_w hw 15 rfl)) (Or.inl (own_w hw 50 rfl)) (by decide) (t := (.array (.object "java/lang/String"))) (t' := .int) (by decide) (by decide))))
      have fc37_119 := ((Fs.other W37_113 (Or.inl npt)).other W37_116 (Or.inr (slot_ne (Or.inl (own_w hw 57 rfl)) (Or.inl (own_w hw 50 rfl)) (by decide) (t := .int) (t' := .int) (by decide) (by decide))))
      have fc37_120 := (fc37_114.wr W37_116 (Or.inl (List.mem_of_getElem? (i := 0) rfl)))
      exact own_leaf X37_116 (v := none) (fun _ => rfl) (BodyLoose.notSynchronized Bd) e37_116 (⟨rfl, N37_116, fc37_120, Or.inl ⟨a, r2, ha, ((Es.wr W37_113).wr W37_116), ⟨((Ep.wr W37_113).wr W37_116), fc37_117, fc37_118, fc37_119, Fw37_116, ((Vn.other W37_113 nt).other W37_116 (Ne.symm npn)), (V37_113.other W37_116 (Ne.symm npt)), ((En.wr W37_113).wr W37_116), ((Et.wr W37_113).wr W37_116), Ov, nt⟩⟩⟩) (by decide) (by decide) (fun fs hr => X37_116.returnOut hx Bd.returns (hb hby d37_259) hr)
theorem rmST_2 (l : Launch) (Z : State) (a0 : Array Value) (hw : ∀ d ∈ tables_1, d.before a0 Z = true) (ws : List Jvm.Cond) (r0 : Addr) (p1 : Int32) (r2 : Addr) (na : Addr) (ta : Addr) (kn : ClassId) (kt : ClassId) (ver : Int32) (a : Int32) (b : Int32) (t0 : Addr) (t1 : Addr) (vb : Addr) (kb : ClassId) (nn : Int32) (vs : List Value) (h0 : Heap) (n0 : Nat) (Z0 : n0 ≤ h0.size) (P_0 : OwnPG Z h0 r0 na ta kn kt (2 : Int32) ver a b (.ref t0) (.ref t1)) (Es : Exa Z h0 r2 "java/lang/String") (Sv : Fld Z h0 r2 "java/lang/String" "value" "[B" (.ref vb)) (Vs : Arv Z h0 vb kb .byte nn vs (.int 0)) (hn : ¬ nn = (0 : Int32)) (g_r0 : n0 ≤ r0) (g_na : n0 ≤ na) (g_ta : n0 ≤ ta) (Et0 : Exa Z h0 t0 "java/lang/String") (Et1 : Exa Z h0 t1 "java/lang/String") (hge : ¬ a < p1) (hb2 : ¬ b < p1) : OwnC l Z mN5 (Jvm.Cond.code mN5 prog_49_method_12_code 5 none :: ws) ({ frames := 3, cells := 0, slots := 0, locals := 90 } : Room) #[(.ref r0), (.int p1), (.ref r2)] h0 (Q37 Z r0 na ta (fun _ => True) h0 n0) := by
  refine own_body (plainFor_of_name pn37) (fun m => ef37 m r0 p1 r2) ?_
  intro p e s m below meth c s₁ Bd hZ hml hown e0 hx hby hnm X0
  have N0 := Fr.nil n0
  obtain ⟨Ep, Fn, Ft, Fs, Fv, Vn, Vt, En, Et, Ov, nt⟩ := P_0
  have npn : r0 ≠ na := Exa.neArv Ep Vn (own_w hw 1 rfl)
  have npt : r0 ≠ ta := Exa.neArv Ep Vt (own_w hw 1 rfl)
  by_cases hc2 : p1 < a
  · refine own_fw (fun _ => ox_aloadN X0.here hx (hb hby d37_0) rfl rfl) ?_
    refine own_fw (fun _ => ox_iloadN X0.here hx (hb hby d37_1) rfl) ?_
    refine own_pc X0 hx hZ hown (rmPL_2b l Z a0 hw [] r0 p1 na kn a b h0 n0 Z0 Fs Fn Vn hb2 hge hc2) (own_w hw 209 rfl) (own_w hw 211 rfl) (own_selP (y := mN1) (own_w hw 1 rfl) (own_w hw 211 rfl) (own_w hw 210 rfl) (by decide)) (own_w hw 210 rfl) (own_w hw 212 rfl) (own_w hw 2 rfl) (by decide) hml rfl Ep e0 (hb hby d37_2) rfl rfl (lenOf pd37_0 rfl) (W := 0) rfl (by decide) (by decide) (c' := 0) (s' := 0) rfl rfl (by decide) (by decide) ?_
    rintro _ T37_1 L37_1 X37_1 ⟨rfl, N37_1q, e37_1⟩
    have N37_1 := Fr.app N0 N37_1q
    refine own_fw (fun _ => ox_istoreN X37_1.here hx (hb hby d37_5) rfl (l' := #[.val (.ref r0), .val (.int p1), .val (.ref r2), .val (.int (0 : Int32)), .unset]) rfl) ?_
    refine own_fw (fun _ => ox_iloadN X37_1.here hx (hb hby d37_6) rfl) ?_
    refine own_fw (fun _ => ox_aloadN X37_1.here hx (hb hby d37_7) rfl rfl) ?_
    refine own_gf X37_1 hx hZ hown (own_w hw 56 rfl) Via.refl e37_1 Fs (hb hby d37_8) rfl fun T37_2 X37_2 e37_2 => ?_
    refine own_fw (fun _ => ox_icmpNo X37_2.here hx (hb hby d37_11) rfl (tlt (by decide : ((0 : Int32) < (2 : Int32)))).2.1) ?_
    refine own_fw (fun _ => ox_aloadN X37_2.here hx (hb hby d37_14) rfl rfl) ?_
    refine own_gf X37_2 hx hZ hown (own_w hw 10 rfl) Via.refl e37_2 Fn (hb hby d37_15) rfl fun T37_3 X37_3 e37_3 => ?_
    refine own_fw (fun _ => ox_iloadN X37_3.here hx (hb hby d37_18) rfl) ?_
    obtain ⟨cl37_4, Ar37_4, q37_4, S37_4, Ng37_4, Hs37_4, G37_4⟩ := id Vn
    have hin37_4 : ¬ ((0 : Int32) < 0 ∨ cl37_4.slots.size ≤ ((0 : Int32)).toNatClampNeg) := inb_of S37_4 ⟨by decide, by decide⟩
    refine own_fw (A := T37_3.setTop (mkF m 20 #[.val (.ref r0), .val (.int p1), .val (.ref r2), .val (.int (0 : Int32)), .unset] [(.int a)])) (X37_3.iaload hx (j := (0 : Int32)) (v := (.int a)) (by rw [e37_3]; exact Ar37_4.1) (State.isArrayOf_alike hZ.alike Ar37_4.2.1) Ar37_4.2.2 hin37_4 (Has.at Hs37_4 hin37_4 rfl) (g := (mkF m 19 #[.val (.ref r0), .val (.int p1), .val (.ref r2), .val (.int (0 : Int32)), .unset] [(.int (0 : Int32)), (.ref na)])) rfl rfl (hb hby d37_19)) ?_
    refine own_fw (fun _ => ox_iloadN X37_3.here hx (hb hby d37_20) rfl) ?_
    refine own_fw (fun _ => ox_icmpYes X37_3.here hx (pc0 := 21) (pc' := 28) rfl (hb hby d37_21) rfl (feq (fun q => own_ltne hc2 q)).2 (by decide) (by decide)) ?_
    refine own_fw (fun _ => ox_iconst X37_3.here hx (hb hby d37_28)) ?_
    refine own_fw (fun _ => ox_istore X37_3.here hx (hb hby d37_29) rfl (l' := #[.val (.ref r0), .val (.int p1), .val (.ref r2), .val (.int (0 : Int32)), .val (.int (0 : Int32))]) rfl) ?_
    refine own_fw (fun _ => ox_iload X37_3.here hx (hb hby d37_31) rfl) ?_
    refine own_fw (fun _ => ox_ifYes X37_3.here hx (pc0 := 33) (pc' := 112) rfl (hb hby d37_33) rfl ((if0 _ _).trans (teq (rfl : (0 : Int32) = (0 : Int32))).1) (by decide) (by decide)) ?_
    refine own_fw (fun _ => ox_iload X37_3.here hx (hb hby d37_112) rfl) ?_
    refine own_fw (fun _ => ox_ifYes X37_3.here hx (pc0 := 114) (pc' := 127) rfl (hb hby d37_114) rfl ((if0 _ _).trans (teq (rfl : (0 : Int32) = (0 : Int32))).1) (by decide) (by decide)) ?_
    refine own_fw (fun _ => ox_aloadN X37_3.here hx (hb hby d37_127) rfl rfl) ?_
    refine own_vc X37_3 hx hZ hown (rm39 l Z a0 hw [] r2 vb kb nn vs h0 n0 Z0 Sv Vs hn) (own_w hw 213 rfl) (own_w hw 214 rfl) (own_w hw 216 rfl) (own_w hw 215 rfl) (own_w hw 217 rfl) (own_w hw 19 rfl) (by decide) hml rfl Es e37_3 (hb hby d37_128) rfl rfl (lenOf pd37_1 rfl) (W := 0) rfl (by decide) (by decide) (c' := 0) (s' := 0) rfl rfl (by decide) (by decide) ?_
    rintro _ T37_5 L37_5 X37_5 ⟨rfl, N37_5q, e37_5⟩
    have N37_5 := Fr.app N37_1 N37_5q
    refine own_fw (fun _ => ox_ifNo X37_5.here hx (hb hby d37_131) rfl ((if0 _ _).trans (teq (rfl : (0 : Int32) = (0 : Int32))).2)) ?_
    refine own_fw (fun _ => ox_aloadN X37_5.here hx (hb hby d37_134) rfl rfl) ?_
    refine own_gf X37_5 hx hZ hown (own_w hw 56 rfl) Via.refl e37_5 Fs (hb hby d37_135) rfl fun T37_6 X37_6 e37_6 => ?_
    refine own_fw (fun _ => ox_aloadN X37_6.here hx (hb hby d37_138) rfl rfl) ?_
    refine own_gf X37_6 hx hZ hown (own_w hw 10 rfl) Via.refl e37_6 Fn (hb hby d37_139) rfl fun T37_7 X37_7 e37_7 => ?_
    obtain ⟨cl37_8, Ar37_8, q37_8, S37_8, Ng37_8, Hs37_8, G37_8⟩ := id Vn
    have st37_8 := X37_7.arraylength hx (by rw [e37_7]; exact Ar37_8.1) (State.isArrayOf_alike hZ.alike Ar37_8.2.1) (g := (mkF m 142 #[.val (.ref r0), .val (.int p1), .val (.ref r2), .val (.int (0 : Int32)), .val (.int (0 : Int32))] [(.ref na), (.int (2 : Int32))])) rfl rfl (hb hby d37_142)
    rw [len_of S37_8 Ng37_8] at st37_8
    refine own_fw (A := T37_7.setTop (mkF m 143 #[.val (.ref r0), .val (.int p1), .val (.ref r2), .val (.int (0 : Int32)), .val (.int (0 : Int32))] [(.int (16 : Int32)), (.int (2 : Int32))])) st37_8 ?_
    refine own_fw (fun _ => ox_icmpYes X37_7.here hx (pc0 := 143) (pc' := 183) rfl (hb hby d37_143) rfl (feq (by decide : ¬ ((2 : Int32) = (16 : Int32)))).2 (by decide) (by decide)) ?_
    refine own_fw (fun _ => ox_aloadN X37_7.here hx (hb hby d37_183) rfl rfl) ?_
    refine own_gf X37_7 hx hZ hown (own_w hw 10 rfl) Via.refl e37_7 Fn (hb hby d37_184) rfl fun T37_9 X37_9 e37_9 => ?_
    refine own_fw (fun _ => ox_iloadN X37_9.here hx (hb hby d37_187) rfl) ?_
    refine own_fw (fun _ => ox_aloadN X37_9.here hx (hb hby d37_188) rfl rfl) ?_
    refine own_gf X37_9 hx hZ hown (own_w hw 10 rfl) Via.refl e37_9 Fn (hb hby d37_189) rfl fun T37_10 X37_10 e37_10 => ?_
    refine own_fw (fun _ => ox_iloadN X37_10.here hx (hb hby d37_192) rfl) ?_
    refine own_fw (fun _ => ox_iconst X37_10.here hx (hb hby d37_193)) ?_
    refine own_fw (fun _ => ox_iadd X37_10.here hx (hb hby d37_194) rfl) ?_
    refine own_fw (fun _ => ox_aloadN X37_10.here hx (hb hby d37_195) rfl rfl) ?_
    refine own_gf X37_10 hx hZ hown (own_w hw 56 rfl) Via.refl e37_10 Fs (hb hby d37_196) rfl fun T37_11 X37_11 e37_11 => ?_
    refine own_fw (fun _ => ox_iloadN X37_11.here hx (hb hby d37_199) rfl) ?_
    refine own_fw (fun _ => ox_isub X37_11.here hx (hb hby d37_200) rfl) ?_
    have tk37_12 : ∀ i, i < 2 → ∀ x, ([(.int a), (.int b), (.int (0 : Int32)), (.int (0 : Int32)), (.int (0 : Int32)), (.int (0 : Int32)), (.int (0 : Int32)), (.int (0 : Int32)), (.int (0 : Int32)), (.int (0 : Int32)), (.int (0 : Int32)), (.int (0 : Int32)), (.int (0 : Int32)), (.int (0 : Int32)), (.int (0 : Int32)), (.int (0 : Int32))] : List Value).getD (0 + i) (.int 0) = .ref x → Sto Z h0 na (.ref x) := by
      intro i hi x hx
      match i, hi with
      | 0, _ => cases hx
      | 1, _ => cases hx
      | (j + 2), hj => omega
    obtain ⟨T37_12, h37_12, L37_12, X37_12, e37_12, N37_12, K37_12, Va37_12, st37_12⟩ := own_ac X37_11 hx hZ hown (own_w hw 218 rfl) (own_w hw 201 rfl) (own_w hw 199 rfl) (own_w hw 200 rfl) e37_11 (o := 0) (q := 1) (n := 2) Vn Vn (by decide) (by decide) (by decide) (by decide) (by decide) tk37_12 N37_5 g_na (g := (mkF m 201 #[.val (.ref r0), .val (.int p1), .val (.ref r2), .val (.int (0 : Int32)), .val (.int (0 : Int32))] [(.int (2 : Int32)), (.int (1 : Int32)), (.ref na), (.int (0 : Int32)), (.ref na)])) rfl (by rw [hml]; rfl) (rest := []) rfl (hb hby d37_201) (by decide) (W := 0) (own_mr rfl) (by decide)
    have V37_12 : Arv Z h37_12 na kn .int (16 : Int32) [(.int a), (.int a), (.int b), (.int (0 : Int32)), (.int (0 : Int32)), (.int (0 : Int32)), (.int (0 : Int32)), (.int (0 : Int32)), (.int (0 : Int32)), (.int (0 : Int32)), (.int (0 : Int32)), (.int (0 : Int32)), (.int (0 : Int32)), (.int (0 : Int32)), (.int (0 : Int32)), (.int (0 : Int32))] (.int 0) := Va37_12
    refine own_fw (A := T37_12.setTop (mkF m 204 #[.val (.ref r0), .val (.int p1), .val (.ref r2), .val (.int (0 : Int32)), .val (.int (0 : Int32))] [])) st37_12 ?_
    have fc37_13 := (Vt.keep K37_12 (fun q => (Ne.symm nt) (List.mem_singleton.mp q)))
    have fc37_14 := ((Keep.refl h0 [r0, na, ta]).trans K37_12 (allS (Or.inl (List.mem_of_getElem? (i := 1) rfl)) all0))
    refine own_fw (fun _ => ox_aloadN X37_12.here hx (hb hby d37_204) rfl rfl) ?_
    refine own_gf X37_12 hx hZ hown (own_w hw 14 rfl) Via.refl e37_12 (Ft.keep K37_12 (fun q => npn (List.mem_singleton.mp q))) (hb hby d37_205) rfl fun T37_15 X37_15 e37_15 => ?_
    refine own_fw (fun _ => ox_iloadN X37_15.here hx (hb hby d37_208) rfl) ?_
    refine own_fw (fun _ => ox_aloadN X37_15.here hx (hb hby d37_209) rfl rfl) ?_
    refine own_gf X37_15 hx hZ hown (own_w hw 14 rfl) Via.refl e37_15 (Ft.keep K37_12 (fun q => npn (List.mem_singleton.mp q))) (hb hby d37_210) rfl fun T37_16 X37_16 e37_16 => ?_
    refine own_fw (fun _ => ox_iloadN X37_16.here hx (hb hby d37_213) rfl) ?_
    refine own_fw (fun _ => ox_iconst X37_16.here hx (hb hby d37_214)) ?_
    refine own_fw (fun _ => ox_iadd X37_16.here hx (hb hby d37_215) rfl) ?_
    refine own_fw (fun _ => ox_aloadN X37_16.here hx (hb hby d37_216) rfl rfl) ?_
    refine own_gf X37_16 hx hZ hown (own_w hw 56 rfl) Via.refl e37_16 (Fs.keep K37_12 (fun q => npn (List.mem_singleton.mp q))) (hb hby d37_217) rfl fun T37_17 X37_17 e37_17 => ?_
    refine own_fw (fun _ => ox_iloadN X37_17.here hx (hb hby d37_220) rfl) ?_
    refine own_fw (fun _ => ox_isub X37_17.here hx (hb hby d37_221) rfl) ?_
    have tk37_18 : ∀ i, i < 2 → ∀ x, ([(.ref t0), (.ref t1), .null, .null, .null, .null, .null, .null, .null, .null, .null, .null, .null, .null, .null, .null] : List Value).getD (0 + i) .null = .ref x → Sto Z h37_12 ta (.ref x) := by
      obtain ⟨cq, Aq, qq, -⟩ := id fc37_13
      intro i hi x hx
      match i, hi with
      | 0, _ => cases hx; exact Sto.ofV Aq qq Ov (Ins.self (Et0.keep K37_12))
      | 1, _ => cases hx; exact Sto.ofV Aq qq Ov (Ins.self (Et1.keep K37_12))
      | (j + 2), hj => omega
    obtain ⟨T37_18, h37_18, L37_18, X37_18, e37_18, N37_18, K37_18, Va37_18, st37_18⟩ := own_ac X37_17 hx hZ hown (own_w hw 218 rfl) (own_w hw 201 rfl) (own_w hw 199 rfl) (own_w hw 200 rfl) e37_17 (o := 0) (q := 1) (n := 2) fc37_13 fc37_13 (by decide) (by decide) (by decide) (by decide) (by decide) tk37_18 N37_12 g_ta (g := (mkF m 222 #[.val (.ref r0), .val (.int p1), .val (.ref r2), .val (.int (0 : Int32)), .val (.int (0 : Int32))] [(.int (2 : Int32)), (.int (1 : Int32)), (.ref ta), (.int (0 : Int32)), (.ref ta)])) rfl (by rw [hml]; rfl) (rest := []) rfl (hb hby d37_222) (by decide) (W := 0) (own_mr rfl) (by decide)
    have V37_18 : Arv Z h37_18 ta kt (.object "java/lang/String") (16 : Int32) [(.ref t0), (.ref t0), (.ref t1), .null, .null, .null, .null, .null, .null, .null, .null, .null, .null, .null, .null, .null] .null := Va37_18
    refine own_fw (A := T37_18.setTop (mkF m 225 #[.val (.ref r0), .val (.int p1), .val (.ref r2), .val (.int (0 : Int32)), .val (.int (0 : Int32))] [])) st37_18 ?_
    have fc37_19 := ((Fn.keep K37_12 (fun q => npn (List.mem_singleton.mp q))).keep K37_18 (fun q => npt (List.mem_singleton.mp q)))
    have fc37_20 := ((Ft.keep K37_12 (fun q => npn (List.mem_singleton.mp q))).keep K37_18 (fun q => npt (List.mem_singleton.mp q)))
    have fc37_21 := ((Fs.keep K37_12 (fun q => npn (List.mem_singleton.mp q))).keep K37_18 (fun q => npt (List.mem_singleton.mp q)))
    have fc37_22 := ((Fv.keep K37_12 (fun q => npn (List.mem_singleton.mp q))).keep K37_18 (fun q => npt (List.mem_singleton.mp q)))
    have fc37_23 := (fc37_14.trans K37_18 (allS (Or.inl (List.mem_of_getElem? (i := 2) rfl)) all0))
    refine own_fw (fun _ => ox_aloadN X37_18.here hx (hb hby d37_225) rfl rfl) ?_
    refine own_gf X37_18 hx hZ hown (own_w hw 10 rfl) Via.refl e37_18 fc37_19 (hb hby d37_226) rfl fun T37_24 X37_24 e37_24 => ?_
    refine own_fw (fun _ => ox_iloadN X37_24.here hx (hb hby d37_229) rfl) ?_
    refine own_fw (fun _ => ox_iloadN X37_24.here hx (hb hby d37_230) rfl) ?_
    obtain ⟨cl37_25, Ar37_25, q37_25, S37_25, Ng37_25, Hs37_25, G37_25⟩ := id (V37_12.keep K37_18 (fun q => nt (List.mem_singleton.mp q)))
    have hin37_25 : ¬ ((0 : Int32) < 0 ∨ cl37_25.slots.size ≤ ((0 : Int32)).toNatClampNeg) := inb_of S37_25 ⟨by decide, by decide⟩
    obtain ⟨T37_25, h37_25, X37_25, e37_25, W37_25, st37_25⟩ := stI X37_24 hx hZ e37_24 Ar37_25 (j := (0 : Int32)) hin37_25 (g := (mkF m 231 #[.val (.ref r0), .val (.int p1), .val (.ref r2), .val (.int (0 : Int32)), .val (.int (0 : Int32))] [(.int p1), (.int (0 : Int32)), (.ref na)])) rfl rfl (hb hby d37_231)
    have V37_25 : Arv Z h37_25 na kn .int (16 : Int32) [(.int p1), (.int a), (.int b), (.int (0 : Int32)), (.int (0 : Int32)), (.int (0 : Int32)), (.int (0 : Int32)), (.int (0 : Int32)), (.int (0 : Int32)), (.int (0 : Int32)), (.int (0 : Int32)), (.int (0 : Int32)), (.int (0 : Int32)), (.int (0 : Int32)), (.int (0 : Int32)), (.int (0 : Int32))] (.int 0) := Arv.set Ar37_25 q37_25 S37_25 Ng37_25 Hs37_25 G37_25 rfl W37_25 0 rfl (Nat.le_of_ble_eq_true rfl)
    have N37_25 := Fr.snoc X37_25 N37_18 g_na
    refine own_fw (A := T37_25.setTop (mkF m 232 #[.val (.ref r0), .val (.int p1), .val (.ref r2), .val (.int (0 : Int32)), .val (.int (0 : Int32))] [])) st37_25 ?_
    have fc37_26 := (fc37_23.wr W37_25 (Or.inl (List.mem_of_getElem? (i := 1) rfl)))
    refine own_fw (fun _ => ox_aloadN X37_25.here hx (hb hby d37_232) rfl rfl) ?_
    refine own_gf X37_25 hx hZ hown (own_w hw 14 rfl) Via.refl e37_25 (fc37_20.other W37_25 (Or.inl npn)) (hb hby d37_233) rfl fun T37_28 X37_28 e37_28 => ?_
    refine own_fw (fun _ => ox_iloadN X37_28.here hx (hb hby d37_236) rfl) ?_
    refine own_fw (fun _ => ox_aloadN X37_28.here hx (hb hby d37_237) rfl rfl) ?_
    obtain ⟨cl37_29, Ar37_29, q37_29, S37_29, Ng37_29, Hs37_29, G37_29⟩ := id (V37_18.other W37_25 (Ne.symm nt))
    have hin37_29 : ¬ ((0 : Int32) < 0 ∨ cl37_29.slots.size ≤ ((0 : Int32)).toNatClampNeg) := inb_of S37_29 ⟨by decide, by decide⟩
    obtain ⟨T37_29, h37_29, X37_29, e37_29, W37_29, st37_29⟩ := stR X37_28 hx hZ e37_28 Ar37_29 (j := (0 : Int32)) hin37_29 rfl (Sto.ofV Ar37_29 q37_29 Ov (Ins.self (((Es.keep K37_12).keep K37_18).wr W37_25))) (g := (mkF m 238 #[.val (.ref r0), .val (.int p1), .val (.ref r2), .val (.int (0 : Int32)), .val (.int (0 : Int32))] [(.ref r2), (.int (0 : Int32)), (.ref ta)])) rfl rfl (hb hby d37_238)
    have V37_29 : Arv Z h37_29 ta kt (.object "java/lang/String") (16 : Int32) [(.ref r2), (.ref t0), (.ref t1), .null, .null, .null, .null, .null, .null, .null, .null, .null, .null, .null, .null, .null] .null := Arv.set Ar37_29 q37_29 S37_29 Ng37_29 Hs37_29 G37_29 rfl W37_29 0 rfl (Nat.le_of_ble_eq_true rfl)
    have N37_29 := Fr.snoc X37_29 N37_25 g_ta
    refine own_fw (A := T37_29.setTop (mkF m 239 #[.val (.ref r0), .val (.int p1), .val (.ref r2), .val (.int (0 : Int32)), .val (.int (0 : Int32))] [])) st37_29 ?_
    have fc37_32 := ((fc37_21.other W37_25 (Or.inl npn)).other W37_29 (Or.inl npt))
    have fc37_33 := ((fc37_22.other W37_25 (Or.inl npn)).other W37_29 (Or.inl npt))
    have fc37_34 := (fc37_26.wr W37_29 (Or.inl (List.mem_of_getElem? (i := 2) rfl)))
    refine own_fw (fun _ => ox_aloadN X37_29.here hx (hb hby d37_239) rfl rfl) ?_
    refine own_fw (fun _ => ox_dup X37_29.here hx (hb hby d37_240) rfl rfl) ?_
    refine own_gf X37_29 hx hZ hown (own_w hw 56 rfl) Via.refl e37_29 fc37_32 (hb hby d37_241) rfl fun T37_35 X37_35 e37_35 => ?_
    refine own_fw (fun _ => ox_iconst X37_35.here hx (hb hby d37_244)) ?_
    refine own_fw (fun _ => ox_iadd X37_35.here hx (hb hby d37_245) rfl) ?_
    obtain ⟨T37_36, h37_36, X37_36, e37_36, W37_36, st37_36⟩ := putF X37_35 hx hZ hown (host := "") (Or.inl (own_w hw 56 rfl)) Via.refl e37_35 fc37_32 ((((Ep.keep K37_12).keep K37_18).wr W37_25).wr W37_29) (Or.inl (own_w hw 57 rfl)) (own_w hw 1 rfl) (ty := .int) (by decide) rfl rfl (g := (mkF m 246 #[.val (.ref r0), .val (.int p1), .val (.ref r2), .val (.int (0 : Int32)), .val (.int (0 : Int32))] [(.int (3 : Int32)), (.ref r0)])) rfl rfl (hb hby d37_246)
    have Fw37_36 := fc37_32.same W37_36
    have N37_36 := Fr.snoc X37_36 N37_29 g_r0
    refine own_fw (A := T37_36.setTop (mkF m 249 #[.val (.ref r0), .val (.int p1), .val (.ref r2), .val (.int (0 : Int32)), .val (.int (0 : Int32))] [])) st37_36 ?_
    have fc37_37 := (((((Ep.keep K37_12).keep K37_18).wr W37_25).wr W37_29).wr W37_36)
    have fc37_40 := (fc37_33.other W37_36 (Or.inr (slot_ne (Or.inl (own_w hw 50 rfl)) (Or.inl (own_w hw 57 rfl)) (by decide) (t := .int) (t' := .int) (by decide) (by decide))))
    have fc37_46 := (fc37_34.wr W37_36 (Or.inl (List.mem_of_getElem? (i := 0) rfl)))
    refine own_fw (fun _ => ox_aloadN X37_36.here hx (hb hby d37_249) rfl rfl) ?_
    refine own_fw (fun _ => ox_dup X37_36.here hx (hb hby d37_250) rfl rfl) ?_
    refine own_gf X37_36 hx hZ hown (own_w hw 49 rfl) Via.refl e37_36 fc37_40 (hb hby d37_251) rfl fun T37_48 X37_48 e37_48 => ?_
    refine own_fw (fun _ => ox_iconst X37_48.here hx (hb hby d37_254)) ?_
    refine own_fw (fun _ => ox_iadd X37_48.here hx (hb hby d37_255) rfl) ?_
    obtain ⟨T37_49, h37_49, X37_49, e37_49, W37_49, st37_49⟩ := putF X37_48 hx hZ hown (host := "") (Or.inl (own_w hw 49 rfl)) Via.refl e37_48 fc37_40 fc37_37 (Or.inl (own_w hw 50 rfl)) (own_w hw 1 rfl) (ty := .int) (by decide) rfl rfl (g := (mkF m 256 #[.val (.ref r0), .val (.int p1), .val (.ref r2), .val (.int (0 : Int32)), .val (.int (0 : Int32))] [(.int (ver + (1 : Int32))), (.ref r0)])) rfl rfl (hb hby d37_256)
    have Fw37_49 := fc37_40.same W37_49
    have N37_49 := Fr.snoc X37_49 N37_36 g_r0
    refine own_fw (A := T37_49.setTop (mkF m 259 #[.val (.ref r0), .val (.int p1), .val (.ref r2), .val (.int (0 : Int32)), .val (.int (0 : Int32))] [])) st37_49 ?_
    have fc37_55 := (fc37_46.wr W37_49 (Or.inl (List.mem_of_getElem? (i := 0) rfl)))
    exact own_leaf X37_49 (v := none) (fun _ => rfl) (BodyLoose.notSynchronized Bd) e37_49 (⟨rfl, N37_49, fc37_55, trivial⟩) (by decide) (by decide) (fun fs hr => X37_49.returnOut hx Bd.returns (hb hby d37_259) hr)
  · refine own_fw (fun _ => ox_aloadN X0.here hx (hb hby d37_0) rfl rfl) ?_
    refine own_fw (fun _ => ox_iloadN X0.here hx (hb hby d37_1) rfl) ?_
    refine own_pc X0 hx hZ hown (rmPL_2c l Z a0 hw [] r0 p1 na kn a b h0 n0 Z0 Fs Fn Vn hb2 hge hc2) (own_w hw 209 rfl) (own_w hw 211 rfl) (own_selP (y := mN1) (own_w hw 1 rfl) (own_w hw 211 rfl) (own_w hw 210 rfl) (by decide)) (own_w hw 210 rfl) (own_w hw 212 rfl) (own_w hw 2 rfl) (by decide) hml rfl Ep e0 (hb hby d37_2) rfl rfl (lenOf pd37_0 rfl) (W := 0) rfl (by decide) (by decide) (c' := 0) (s' := 0) rfl rfl (by decide) (by decide) ?_
    rintro _ T37_56 L37_56 X37_56 ⟨rfl, N37_56q, e37_56⟩
    have N37_56 := Fr.app N0 N37_56q
    refine own_fw (fun _ => ox_istoreN X37_56.here hx (hb hby d37_5) rfl (l' := #[.val (.ref r0), .val (.int p1), .val (.ref r2), .val (.int (0 : Int32)), .unset]) rfl) ?_
    refine own_fw (fun _ => ox_iloadN X37_56.here hx (hb hby d37_6) rfl) ?_
    refine own_fw (fun _ => ox_aloadN X37_56.here hx (hb hby d37_7) rfl rfl) ?_
    refine own_gf X37_56 hx hZ hown (own_w hw 56 rfl) Via.refl e37_56 Fs (hb hby d37_8) rfl fun T37_57 X37_57 e37_57 => ?_
    refine own_fw (fun _ => ox_icmpNo X37_57.here hx (hb hby d37_11) rfl (tlt (by decide : ((0 : Int32) < (2 : Int32)))).2.1) ?_
    refine own_fw (fun _ => ox_aloadN X37_57.here hx (hb hby d37_14) rfl rfl) ?_
    refine own_gf X37_57 hx hZ hown (own_w hw 10 rfl) Via.refl e37_57 Fn (hb hby d37_15) rfl fun T37_58 X37_58 e37_58 => ?_
    refine own_fw (fun _ => ox_iloadN X37_58.here hx (hb hby d37_18) rfl) ?_
    obtain ⟨cl37_59, Ar37_59, q37_59, S37_59, Ng37_59, Hs37_59, G37_59⟩ := id Vn
    have hin37_59 : ¬ ((0 : Int32) < 0 ∨ cl37_59.slots.size ≤ ((0 : Int32)).toNatClampNeg) := inb_of S37_59 ⟨by decide, by decide⟩
    refine own_fw (A := T37_58.setTop (mkF m 20 #[.val (.ref r0), .val (.int p1), .val (.ref r2), .val (.int (0 : Int32)), .unset] [(.int a)])) (X37_58.iaload hx (j := (0 : Int32)) (v := (.int a)) (by rw [e37_58]; exact Ar37_59.1) (State.isArrayOf_alike hZ.alike Ar37_59.2.1) Ar37_59.2.2 hin37_59 (Has.at Hs37_59 hin37_59 rfl) (g := (mkF m 19 #[.val (.ref r0), .val (.int p1), .val (.ref r2), .val (.int (0 : Int32)), .unset] [(.int (0 : Int32)), (.ref na)])) rfl rfl (hb hby d37_19)) ?_
    refine own_fw (fun _ => ox_iloadN X37_58.here hx (hb hby d37_20) rfl) ?_
    refine own_fw (fun _ => ox_icmpNo X37_58.here hx (hb hby d37_21) rfl (teq (own_le2 hge hc2)).2) ?_
    refine own_fw (fun _ => ox_iconst X37_58.here hx (hb hby d37_24)) ?_
    refine own_fw (fun _ => ox_goto X37_58.here hx (pc0 := 25) (pc' := 29) rfl (hb hby d37_25) (by decide) (by decide)) ?_
    refine own_fw (fun _ => ox_istore X37_58.here hx (hb hby d37_29) rfl (l' := #[.val (.ref r0), .val (.int p1), .val (.ref r2), .val (.int (0 : Int32)), .val (.int (1 : Int32))]) rfl) ?_
    refine own_fw (fun _ => ox_iload X37_58.here hx (hb hby d37_31) rfl) ?_
    refine own_fw (fun _ => ox_ifNo X37_58.here hx (hb hby d37_33) rfl ((if0 _ _).trans (feq (by decide : ¬ ((1 : Int32) = (0 : Int32)))).1)) ?_
    refine own_fw (fun _ => ox_aloadN X37_58.here hx (hb hby d37_36) rfl rfl) ?_
    refine own_vc X37_58 hx hZ hown (rm39 l Z a0 hw [] r2 vb kb nn vs h0 n0 Z0 Sv Vs hn) (own_w hw 213 rfl) (own_w hw 214 rfl) (own_w hw 216 rfl) (own_w hw 215 rfl) (own_w hw 217 rfl) (own_w hw 19 rfl) (by decide) hml rfl Es e37_58 (hb hby d37_37) rfl rfl (lenOf pd37_1 rfl) (W := 0) rfl (by decide) (by decide) (c' := 0) (s' := 0) rfl rfl (by decide) (by decide) ?_
    rintro _ T37_60 L37_60 X37_60 ⟨rfl, N37_60q, e37_60⟩
    have N37_60 := Fr.app N37_56 N37_60q
    refine own_fw (fun _ => ox_ifYes X37_60.here hx (pc0 := 40) (pc' := 112) rfl (hb hby d37_40) rfl ((if0 _ _).trans (teq (rfl : (0 : Int32) = (0 : Int32))).1) (by decide) (by decide)) ?_
    refine own_fw (fun _ => ox_iload X37_60.here hx (hb hby d37_112) rfl) ?_
    refine own_fw (fun _ => ox_ifNo X37_60.here hx (hb hby d37_114) rfl ((if0 _ _).trans (feq (by decide : ¬ ((1 : Int32) = (0 : Int32)))).1)) ?_
    refine own_fw (fun _ => ox_aloadN X37_60.here hx (hb hby d37_117) rfl rfl) ?_
    refine own_gf X37_60 hx hZ hown (own_w hw 14 rfl) Via.refl e37_60 Ft (hb hby d37_118) rfl fun T37_61 X37_61 e37_61 => ?_
    refine own_fw (fun _ => ox_iloadN X37_61.here hx (hb hby d37_121) rfl) ?_
    refine own_fw (fun _ => ox_aloadN X37_61.here hx (hb hby d37_122) rfl rfl) ?_
    obtain ⟨cl37_62, Ar37_62, q37_62, S37_62, Ng37_62, Hs37_62, G37_62⟩ := id Vt
    have hin37_62 : ¬ ((0 : Int32) < 0 ∨ cl37_62.slots.size ≤ ((0 : Int32)).toNatClampNeg) := inb_of S37_62 ⟨by decide, by decide⟩
    obtain ⟨T37_62, h37_62, X37_62, e37_62, W37_62, st37_62⟩ := stR X37_61 hx hZ e37_61 Ar37_62 (j := (0 : Int32)) hin37_62 rfl (Sto.ofV Ar37_62 q37_62 Ov (Ins.self Es)) (g := (mkF m 123 #[.val (.ref r0), .val (.int p1), .val (.ref r2), .val (.int (0 : Int32)), .val (.int (1 : Int32))] [(.ref r2), (.int (0 : Int32)), (.ref ta)])) rfl rfl (hb hby d37_123)
    have V37_62 : Arv Z h37_62 ta kt (.object "java/lang/String") (16 : Int32) [(.ref r2), (.ref t1), .null, .null, .null, .null, .null, .null, .null, .null, .null, .null, .null, .null, .null, .null] .null := Arv.set Ar37_62 q37_62 S37_62 Ng37_62 Hs37_62 G37_62 rfl W37_62 0 rfl (Nat.le_of_ble_eq_true rfl)
    have N37_62 := Fr.snoc X37_62 N37_60 g_ta
    refine own_fw (A := T37_62.setTop (mkF m 124 #[.val (.ref r0), .val (.int p1), .val (.ref r2), .val (.int (0 : Int32)), .val (.int (1 : Int32))] [])) st37_62 ?_
    have fc37_63 := ((Keep.refl h0 [r0, na, ta]).wr W37_62 (Or.inl (List.mem_of_getElem? (i := 2) rfl)))
    refine own_fw (fun _ => ox_goto X37_62.here hx (pc0 := 124) (pc' := 249) rfl (hb hby d37_124) (by decide) (by decide)) ?_
    refine own_fw (fun _ => ox_aloadN X37_62.here hx (hb hby d37_249) rfl rfl) ?_
    refine own_fw (fun _ => ox_dup X37_62.here hx (hb hby d37_250) rfl rfl) ?_
    refine own_gf X37_62 hx hZ hown (own_w hw 49 rfl) Via.refl e37_62 (Fv.other W37_62 (Or.inl npt)) (hb hby d37_251) rfl fun T37_64 X37_64 e37_64 => ?_
    refine own_fw (fun _ => ox_iconst X37_64.here hx (hb hby d37_254)) ?_
    refine own_fw (fun _ => ox_iadd X37_64.here hx (hb hby d37_255) rfl) ?_
    obtain ⟨T37_65, h37_65, X37_65, e37_65, W37_65, st37_65⟩ := putF X37_64 hx hZ hown (host := "") (Or.inl (own_w hw 49 rfl)) Via.refl e37_64 (Fv.other W37_62 (Or.inl npt)) (Ep.wr W37_62) (Or.inl (own_w hw 50 rfl)) (own_w hw 1 rfl) (ty := .int) (by decide) rfl rfl (g := (mkF m 256 #[.val (.ref r0), .val (.int p1), .val (.ref r2), .val (.int (0 : Int32)), .val (.int (1 : Int32))] [(.int (ver + (1 : Int32))), (.ref r0)])) rfl rfl (hb hby d37_256)
    have Fw37_65 := (Fv.other W37_62 (Or.inl npt)).same W37_65
    have N37_65 := Fr.snoc X37_65 N37_62 g_r0
    refine own_fw (A := T37_65.setTop (mkF m 259 #[.val (.ref r0), .val (.int p1), .val (.ref r2), .val (.int (0 : Int32)), .val (.int (1 : Int32))] [])) st37_65 ?_
    have fc37_69 := (fc37_63.wr W37_65 (Or.inl (List.mem_of_getElem? (i := 0) rfl)))
    exact own_leaf X37_65 (v := none) (fun _ => rfl) (BodyLoose.notSynchronized Bd) e37_65 (⟨rfl, N37_65, fc37_69, trivial⟩) (by decide) (by decide) (fun fs hr => X37_65.returnOut hx Bd.returns (hb hby d37_259) hr)
theorem d12_0 : decode cB8 0 = .ok (.new 92, 3) := by decide +kernel
theorem d12_3 : decode cB8 3 = .ok (.dup, 1) := by decide +kernel
theorem d12_4 : decode cB8 4 = .ok (.aload_n 1, 1) := by decide +kernel
theorem d12_5 : decode cB8 5 = .ok (.iconst 0, 1) := by decide +kernel
theorem d12_6 : decode cB8 6 = .ok (.getstatic 94, 3) := by decide +kernel
theorem d12_9 : decode cB8 9 = .ok (.invokespecial 100, 3) := by decide +kernel
theorem d12_12 : decode cB8 12 = .ok (.astore_n 2, 1) := by decide +kernel
theorem d12_13 : decode cB8 13 = .ok (.aload_n 2, 1) := by decide +kernel
theorem d12_14 : decode cB8 14 = .ok (.invokevirtual 114, 3) := by decide +kernel
theorem d12_17 : decode cB8 17 = .ok (.istore_n 3, 1) := by decide +kernel
theorem d12_18 : decode cB8 18 = .ok (.iload_n 3, 1) := by decide +kernel
theorem d12_19 : decode cB8 19 = .ok (.ifCond .lt 12, 3) := by decide +kernel
theorem d12_22 : decode cB8 22 = .ok (.aload_n 0, 1) := by decide +kernel
theorem d12_23 : decode cB8 23 = .ok (.iload_n 3, 1) := by decide +kernel
theorem d12_24 : decode cB8 24 = .ok (.aload_n 2, 1) := by decide +kernel
theorem d12_25 : decode cB8 25 = .ok (.invokevirtual 117, 3) := by decide +kernel
theorem d12_28 : decode cB8 28 = .ok (.invokevirtual 121, 3) := by decide +kernel
theorem d12_31 : decode cB8 31 = .ok (.iload_n 3, 1) := by decide +kernel
theorem d12_32 : decode cB8 32 = .ok (.ifCond .lt 7, 3) := by decide +kernel
theorem d12_35 : decode cB8 35 = .ok (.iconst 1, 1) := by decide +kernel
theorem d12_36 : decode cB8 36 = .ok (.goto 4, 3) := by decide +kernel
theorem d12_40 : decode cB8 40 = .ok (.ireturn, 1) := by decide +kernel
theorem pn12 : plainName "com/example/copperline/copperline/Program" = true := by first | (simp [plainName, overriddenIn]; done) | decide +kernel
theorem pd12_0 : parseMethodDescriptor "(Ljava/lang/String;ILcom/example/copperline/copperline/Lexer$Reading;)V" = some ⟨[(.object "java/lang/String"), .int, (.object "com/example/copperline/copperline/Lexer$Reading")], none⟩ := by decide +kernel
theorem pd12_1 : parseMethodDescriptor "()I" = some ⟨[], some .int⟩ := by decide +kernel
theorem pd12_2 : parseMethodDescriptor "()Ljava/lang/String;" = some ⟨[], some (.object "java/lang/String")⟩ := by decide +kernel
theorem pd12_3 : parseMethodDescriptor "(ILjava/lang/String;)V" = some ⟨[.int, (.object "java/lang/String")], none⟩ := by decide +kernel
theorem ef12 (m : MethodId) (r0 : Addr) (r1 : Addr) : entryFrame m #[(.ref r0), (.ref r1)] 4 = mkF m 0 #[.val (.ref r0), .val (.ref r1), .unset, .unset] [] := by first | (simp [entryFrame, mkF, argsToLocals, Value.category]; done) | rfl
def Q12 (Z : State) (r0 na ta : Addr) (R : Heap → Prop) (h0 : Heap) (n0 : Nat) (w : Option Value) (h : Heap) (L : List Loc) : Prop := w = some (.int 1) ∧ Fr n0 L ∧ Keep h0 h [r0, na, ta] ∧ R h
theorem own_nn {x0 x1 x2 : Int32} (d0 : own_dig x0) (d1 : own_dig x1) (d2 : own_dig x2) : ¬ own_num x0 x1 x2 < (0 : Int32) := (own_k3 d0 d1 d2).1
theorem rmEN_L0 (l : Launch) (Z : State) (a0 : Array Value) (hw : ∀ d ∈ tables_1, d.before a0 Z = true) (ws : List Jvm.Cond) (r0 : Addr) (r1 : Addr) (na : Addr) (ta : Addr) (kn : ClassId) (kt : ClassId) (ver : Int32) (vb : Addr) (kb : ClassId) (x0 : Int32) (x1 : Int32) (x2 : Int32) (x4 : Int32) (cc : Int32) (fv : Value) (ra : Addr) (h0 : Heap) (n0 : Nat) (Z0 : n0 ≤ h0.size) (P_0 : OwnPG Z h0 r0 na ta kn kt (0 : Int32) ver (0 : Int32) (0 : Int32) .null .null) (Et : Exa Z h0 r1 "java/lang/String") (Svt : Fld Z h0 r1 "java/lang/String" "value" "[B" (.ref vb)) (Sct : Fld Z h0 r1 "java/lang/String" "coder" "B" (.int 0)) (Vt : Arv Z h0 vb kb .byte (5 : Int32) [(.int x0), (.int x1), (.int x2), (.int (32 : Int32)), (.int x4)] (.int 0)) (d0 : own_dig x0) (d1 : own_dig x1) (d2 : own_dig x2) (l4 : own_let x4) (g_r0 : n0 ≤ r0) (g_na : n0 ≤ na) (g_ta : n0 ≤ ta) (OO : OwnOld Z n0 h0 cc fv ra) : OwnC l Z mN6 (Jvm.Cond.code mN6 prog_49_method_10_code 4 (some .boolean) :: ws) ({ frames := 7, cells := 3, slots := 10, locals := 108 } : Room) #[(.ref r0), (.ref r1)] h0 (Q12 Z r0 na ta (fun h => OwnN1 Z r0 na ta kn kt (ver + (1 : Int32)) h) h0 n0) := by
  refine own_body (plainFor_of_name pn12) (fun m => ef12 m r0 r1) ?_
  intro p e s m below meth c s₁ Bd hZ hml hown e0 hx hby hnm X0
  have N0 := Fr.nil n0
  obtain ⟨O_0, S_c, hcc, S_f, hfv, S_r⟩ := OO
  obtain ⟨Epg, Fng, Ftg, Fsg, Fvg, Vng, Vtg, Eng, Etg, Ovg, ntg⟩ := P_0
  obtain ⟨T12_1, h12_1, X12_1, e12_1, E12_1, A12_1, D12_1, -, st12_1⟩ := newO X0 hx hZ hown (own_w hw 87 rfl) (own_w hw 88 rfl) (own_w hw 89 rfl) e0 (g := (mkF m 0 #[.val (.ref r0), .val (.ref r1), .unset, .unset] [])) rfl (hb hby d12_0) (by decide) (by decide)
  obtain ⟨b12_1, g12_1⟩ : ∃ z, z = h0.size := ⟨_, rfl⟩
  rw [← g12_1] at A12_1 D12_1 st12_1
  have ne_r0_b12_1 : r0 ≠ b12_1 := Nat.ne_of_lt (Nat.lt_of_lt_of_le Epg.lt (Nat.le_of_eq g12_1.symm))
  have ne_na_b12_1 : na ≠ b12_1 := Nat.ne_of_lt (Nat.lt_of_lt_of_le Vng.lt (Nat.le_of_eq g12_1.symm))
  have ne_ta_b12_1 : ta ≠ b12_1 := Nat.ne_of_lt (Nat.lt_of_lt_of_le Vtg.lt (Nat.le_of_eq g12_1.symm))
  have ne_r1_b12_1 : r1 ≠ b12_1 := Nat.ne_of_lt (Nat.lt_of_lt_of_le Et.lt (Nat.le_of_eq g12_1.symm))
  have ne_vb_b12_1 : vb ≠ b12_1 := Nat.ne_of_lt (Nat.lt_of_lt_of_le Vt.lt (Nat.le_of_eq g12_1.symm))
  have g_b12_1 : n0 ≤ b12_1 := Nat.le_trans Z0 (Nat.le_of_eq g12_1.symm)
  have sz_b12_1 : h0.size ≤ b12_1 := Nat.le_trans (Keep.refl h0 [r0, na, ta]).1 (Nat.le_of_eq g12_1.symm)
  have F_keywordPosition_b12_1 : Fld Z h12_1 b12_1 "com/example/copperline/copperline/Lexer" "keywordPosition" "I" (.int (0 : Int32)) := D12_1 (Or.inl (own_w hw 98 rfl)) (ty := .int) (by decide)
  have F_text_b12_1 : Fld Z h12_1 b12_1 "com/example/copperline/copperline/Lexer" "text" "Ljava/lang/String;" .null := D12_1 (Or.inr (own_w hw 100 rfl)) (ty := (.object "java/lang/String")) (by decide)
  have F_position_b12_1 : Fld Z h12_1 b12_1 "com/example/copperline/copperline/Lexer" "position" "I" (.int (0 : Int32)) := D12_1 (Or.inl (own_w hw 102 rfl)) (ty := .int) (by decide)
  have F_reading_b12_1 : Fld Z h12_1 b12_1 "com/example/copperline/copperline/Lexer" "reading" "Lcom/example/copperline/copperline/Lexer$Reading;" .null := D12_1 (Or.inr (own_w hw 104 rfl)) (ty := (.object "com/example/copperline/copperline/Lexer$Reading")) (by decide)
  refine own_fw (A := T12_1.setTop (mkF m 3 #[.val (.ref r0), .val (.ref r1), .unset, .unset] [(.ref b12_1)])) st12_1 ?_
  refine own_fw (fun _ => ox_dup X12_1.here hx (hb hby d12_3) rfl rfl) ?_
  refine own_fw (fun _ => ox_aloadN X12_1.here hx (hb hby d12_4) rfl rfl) ?_
  refine own_fw (fun _ => ox_iconst X12_1.here hx (hb hby d12_5)) ?_
  obtain ⟨T12_2, X12_2, e12_2, st12_2⟩ := getS2 X12_1 hx hZ hown (host := "") (Or.inl (own_w hw 90 rfl)) Via.refl e12_1 (S_r.ext (O_0.ext E12_1).2) (g := (mkF m 6 #[.val (.ref r0), .val (.ref r1), .unset, .unset] [(.int (0 : Int32)), (.ref r1), (.ref b12_1), (.ref b12_1)])) rfl (hb hby d12_6)
  refine own_fw (A := T12_2.setTop (mkF m 9 #[.val (.ref r0), .val (.ref r1), .unset, .unset] [(.ref ra), (.int (0 : Int32)), (.ref r1), (.ref b12_1), (.ref b12_1)])) st12_2 ?_
  refine own_ic X12_2 hx hZ hown (rm13 l Z a0 hw [] b12_1 r1 ra h12_1 n0 (Nat.le_trans Z0 E12_1.1) A12_1 F_text_b12_1 F_position_b12_1 F_keywordPosition_b12_1 F_reading_b12_1 g_b12_1) (own_w hw 93 rfl) (own_w hw 94 rfl) (own_w hw 95 rfl) (own_w hw 89 rfl) rfl (by decide) hml rfl e12_2 (hb hby d12_9) rfl rfl (lenOf pd12_0 rfl) (W := 1) rfl (by decide) (by decide) (c' := 1) (s' := 5) rfl rfl (by decide) (by decide) ?_
  rintro _ T12_3 L12_3 X12_3 ⟨rfl, N12_3q, K12_3, Ex12_3, Fx12_3, Fp12_3⟩
  have N12_3 := Fr.app N0 N12_3q
  have fc12_4 := ((Fng.ext E12_1).keep K12_3 (fun q => ne_r0_b12_1 (List.mem_singleton.mp q)))
  have fc12_5 := ((Ftg.ext E12_1).keep K12_3 (fun q => ne_r0_b12_1 (List.mem_singleton.mp q)))
  have fc12_6 := ((Fsg.ext E12_1).keep K12_3 (fun q => ne_r0_b12_1 (List.mem_singleton.mp q)))
  have fc12_7 := ((Fvg.ext E12_1).keep K12_3 (fun q => ne_r0_b12_1 (List.mem_singleton.mp q)))
  have fc12_8 := ((Vng.ext E12_1).keep K12_3 (fun q => ne_na_b12_1 (List.mem_singleton.mp q)))
  have fc12_9 := ((Vtg.ext E12_1).keep K12_3 (fun q => ne_ta_b12_1 (List.mem_singleton.mp q)))
  have fc12_10 := ((Svt.ext E12_1).keep K12_3 (fun q => ne_r1_b12_1 (List.mem_singleton.mp q)))
  have fc12_11 := ((Sct.ext E12_1).keep K12_3 (fun q => ne_r1_b12_1 (List.mem_singleton.mp q)))
  have fc12_12 := ((Vt.ext E12_1).keep K12_3 (fun q => ne_vb_b12_1 (List.mem_singleton.mp q)))
  have fc12_13 := (((Keep.refl h0 [r0, na, ta]).ext E12_1).trans K12_3 (allS (Or.inr sz_b12_1) all0))
  refine own_fw (fun _ => ox_astoreN X12_3.here hx (hb hby d12_12) rfl rfl (l' := #[.val (.ref r0), .val (.ref r1), .val (.ref b12_1), .unset]) rfl) ?_
  refine own_fw (fun _ => ox_aloadN X12_3.here hx (hb hby d12_13) rfl rfl) ?_
  refine own_vc X12_3 hx hZ hown (rmNU_L l Z a0 hw [] b12_1 r1 vb kb x0 x1 x2 x4 cc fv ra T12_3.heap n0 (Nat.le_trans (Nat.le_trans Z0 E12_1.1) K12_3.1) Ex12_3 Fx12_3 Fp12_3 ((Et.ext E12_1).keep K12_3) fc12_10 fc12_11 fc12_12 d0 d1 d2 l4 ne_r1_b12_1 ne_vb_b12_1 g_b12_1 ⟨((O_0.ext E12_1).keep K12_3 (allS g_b12_1 all0)), S_c, hcc, S_f, hfv, S_r⟩) (own_w hw 105 rfl) (own_w hw 106 rfl) (own_w hw 108 rfl) (own_w hw 107 rfl) (own_w hw 109 rfl) (own_w hw 89 rfl) (by decide) hml rfl Ex12_3 rfl (hb hby d12_14) rfl rfl (lenOf pd12_1 rfl) (W := 0) rfl (by decide) (by decide) (c' := 1) (s' := 5) rfl rfl (by decide) (by decide) ?_
  rintro _ T12_14 L12_14 X12_14 ⟨rfl, N12_14q, K12_14, Ex12_14, Fx12_14, Fp12_14⟩
  have N12_14 := Fr.app N12_3 N12_14q
  have fc12_15 := (fc12_4.keep K12_14 (fun q => ne_r0_b12_1 (List.mem_singleton.mp q)))
  have fc12_16 := (fc12_5.keep K12_14 (fun q => ne_r0_b12_1 (List.mem_singleton.mp q)))
  have fc12_17 := (fc12_6.keep K12_14 (fun q => ne_r0_b12_1 (List.mem_singleton.mp q)))
  have fc12_18 := (fc12_7.keep K12_14 (fun q => ne_r0_b12_1 (List.mem_singleton.mp q)))
  have fc12_19 := (fc12_8.keep K12_14 (fun q => ne_na_b12_1 (List.mem_singleton.mp q)))
  have fc12_20 := (fc12_9.keep K12_14 (fun q => ne_ta_b12_1 (List.mem_singleton.mp q)))
  have fc12_21 := (fc12_10.keep K12_14 (fun q => ne_r1_b12_1 (List.mem_singleton.mp q)))
  have fc12_22 := (fc12_11.keep K12_14 (fun q => ne_r1_b12_1 (List.mem_singleton.mp q)))
  have fc12_23 := (fc12_12.keep K12_14 (fun q => ne_vb_b12_1 (List.mem_singleton.mp q)))
  have fc12_24 := (((O_0.ext E12_1).keep K12_3 (allS g_b12_1 all0)).keep K12_14 (allS g_b12_1 all0))
  have fc12_25 := (Nat.le_trans (Nat.le_trans (Nat.le_trans Z0 E12_1.1) K12_3.1) K12_14.1)
  refine own_fw (fun _ => ox_istoreN X12_14.here hx (hb hby d12_17) rfl (l' := #[.val (.ref r0), .val (.ref r1), .val (.ref b12_1), .val (.int (own_num x0 x1 x2))]) rfl) ?_
  refine own_fw (fun _ => ox_iloadN X12_14.here hx (hb hby d12_18) rfl) ?_
  refine own_fw (fun _ => ox_ifNo X12_14.here hx (hb hby d12_19) rfl ((if0 _ _).trans (flt (own_nn d0 d1 d2)).1)) ?_
  refine own_fw (fun _ => ox_aloadN X12_14.here hx (hb hby d12_22) rfl rfl) ?_
  refine own_fw (fun _ => ox_iloadN X12_14.here hx (hb hby d12_23) rfl) ?_
  refine own_fw (fun _ => ox_aloadN X12_14.here hx (hb hby d12_24) rfl rfl) ?_
  refine own_vc X12_14 hx hZ hown (rmRE_L l Z a0 hw [] b12_1 r1 vb kb x0 x1 x2 x4 cc fv ra T12_14.heap n0 fc12_25 Ex12_14 Fx12_14 Fp12_14 (((Et.ext E12_1).keep K12_3).keep K12_14) fc12_21 fc12_22 fc12_23 d0 d1 d2 l4 ne_r1_b12_1 ne_vb_b12_1 g_b12_1 ⟨fc12_24, S_c, hcc, S_f, hfv, S_r⟩) (own_w hw 158 rfl) (own_w hw 159 rfl) (own_w hw 161 rfl) (own_w hw 160 rfl) (own_w hw 162 rfl) (own_w hw 89 rfl) (by decide) hml rfl Ex12_14 rfl (hb hby d12_25) rfl rfl (lenOf pd12_2 rfl) (W := 2) rfl (by decide) (by decide) (c' := 3) (s' := 10) rfl rfl (by decide) (by decide) ?_
  rintro _ T12_26 L12_26 X12_26 ⟨rs12_26, bs12_26, kb12_26, rfl, N12_26q, K12_26, E12_26, Sv12_26, Vb12_26, zr12_26, zb12_26⟩
  have N12_26 := Fr.app N12_14 N12_26q
  have fc12_27 := (fc12_15.keep K12_26 (fun q => ne_r0_b12_1 (List.mem_singleton.mp q)))
  have fc12_28 := (fc12_16.keep K12_26 (fun q => ne_r0_b12_1 (List.mem_singleton.mp q)))
  have fc12_29 := (fc12_17.keep K12_26 (fun q => ne_r0_b12_1 (List.mem_singleton.mp q)))
  have fc12_30 := (fc12_18.keep K12_26 (fun q => ne_r0_b12_1 (List.mem_singleton.mp q)))
  have fc12_31 := (fc12_19.keep K12_26 (fun q => ne_na_b12_1 (List.mem_singleton.mp q)))
  have fc12_32 := (fc12_20.keep K12_26 (fun q => ne_ta_b12_1 (List.mem_singleton.mp q)))
  have fc12_36 := ((fc12_13.trans K12_14 (allS (Or.inr sz_b12_1) all0)).trans K12_26 (allS (Or.inr sz_b12_1) all0))
  refine own_pc X12_26 hx hZ hown (rmST_0 l Z a0 hw [] r0 (own_num x0 x1 x2) rs12_26 na ta kn kt ver bs12_26 kb12_26 (1 : Int32) [(.int x4)] T12_26.heap n0 (Nat.le_trans fc12_25 K12_26.1) ⟨((((Epg.ext E12_1).keep K12_3).keep K12_14).keep K12_26), fc12_27, fc12_28, fc12_29, fc12_30, fc12_31, fc12_32, ((((Eng.ext E12_1).keep K12_3).keep K12_14).keep K12_26), ((((Etg.ext E12_1).keep K12_3).keep K12_14).keep K12_26), Ovg, ntg⟩ E12_26 Sv12_26 Vb12_26 (by decide) g_r0 g_na g_ta) (own_w hw 205 rfl) (own_w hw 207 rfl) (own_selP (y := mN5) (own_w hw 1 rfl) (own_w hw 207 rfl) (own_w hw 206 rfl) (by decide)) (own_w hw 206 rfl) (own_w hw 208 rfl) (own_w hw 2 rfl) (by decide) hml rfl ((((Epg.ext E12_1).keep K12_3).keep K12_14).keep K12_26) rfl (hb hby d12_28) rfl rfl (lenOf pd12_3 rfl) (W := 0) rfl (by decide) (by decide) (c' := 3) (s' := 10) rfl rfl (by decide) (by decide) ?_
  rintro _ T12_37 L12_37 X12_37 ⟨rfl, N12_37q, K12_37, R12_37⟩
  have N12_37 := Fr.app N12_26 N12_37q
  have fc12_45 := (fc12_36.trans K12_37 (allS (Or.inl (List.mem_of_getElem? (i := 0) rfl)) (allS (Or.inl (List.mem_of_getElem? (i := 1) rfl)) (allS (Or.inl (List.mem_of_getElem? (i := 2) rfl)) all0))))
  refine own_fw (fun _ => ox_iloadN X12_37.here hx (hb hby d12_31) rfl) ?_
  refine own_fw (fun _ => ox_ifNo X12_37.here hx (hb hby d12_32) rfl ((if0 _ _).trans (flt (own_nn d0 d1 d2)).1)) ?_
  refine own_fw (fun _ => ox_iconst X12_37.here hx (hb hby d12_35)) ?_
  refine own_fw (fun _ => ox_goto X12_37.here hx (pc0 := 36) (pc' := 40) rfl (hb hby d12_36) (by decide) (by decide)) ?_
  exact own_leaf X12_37 (v := some (.int (nar .boolean (1 : Int32)))) (own_ret Bd.returns) (BodyLoose.notSynchronized Bd) rfl (⟨rfl, N12_37, fc12_45, ⟨(own_num x0 x1 x2), rs12_26, own_nn d0 d1 d2, R12_37.1, R12_37.2⟩⟩) (by decide) (by decide) (fun fs hr => retN X12_37 hx (t := .boolean) Bd.returns (by simp) (hb hby d12_40) hr)
theorem rmEN_L1 (l : Launch) (Z : State) (a0 : Array Value) (hw : ∀ d ∈ tables_1, d.before a0 Z = true) (ws : List Jvm.Cond) (r0 : Addr) (r1 : Addr) (na : Addr) (ta : Addr) (kn : ClassId) (kt : ClassId) (ver : Int32) (a : Int32) (t0 : Addr) (vb : Addr) (kb : ClassId) (x0 : Int32) (x1 : Int32) (x2 : Int32) (x4 : Int32) (cc : Int32) (fv : Value) (ra : Addr) (h0 : Heap) (n0 : Nat) (Z0 : n0 ≤ h0.size) (P_0 : OwnPG Z h0 r0 na ta kn kt (1 : Int32) ver a (0 : Int32) (.ref t0) .null) (Et : Exa Z h0 r1 "java/lang/String") (Svt : Fld Z h0 r1 "java/lang/String" "value" "[B" (.ref vb)) (Sct : Fld Z h0 r1 "java/lang/String" "coder" "B" (.int 0)) (Vt : Arv Z h0 vb kb .byte (5 : Int32) [(.int x0), (.int x1), (.int x2), (.int (32 : Int32)), (.int x4)] (.int 0)) (d0 : own_dig x0) (d1 : own_dig x1) (d2 : own_dig x2) (l4 : own_let x4) (g_r0 : n0 ≤ r0) (g_na : n0 ≤ na) (g_ta : n0 ≤ ta) (Et0 : Exa Z h0 t0 "java/lang/String") (ha : ¬ a < (0 : Int32)) (OO : OwnOld Z n0 h0 cc fv ra) : OwnC l Z mN6 (Jvm.Cond.code mN6 prog_49_method_10_code 4 (some .boolean) :: ws) ({ frames := 7, cells := 3, slots := 10, locals := 108 } : Room) #[(.ref r0), (.ref r1)] h0 (Q12 Z r0 na ta (fun h => OwnN1 Z r0 na ta kn kt (ver + (1 : Int32)) h ∨ OwnN2 Z r0 na ta kn kt (ver + (1 : Int32)) h) h0 n0) := by
  refine own_body (plainFor_of_name pn12) (fun m => ef12 m r0 r1) ?_
  intro p e s m below meth c s₁ Bd hZ hml hown e0 hx hby hnm X0
  have N0 := Fr.nil n0
  obtain ⟨O_0, S_c, hcc, S_f, hfv, S_r⟩ := OO
  obtain ⟨Epg, Fng, Ftg, Fsg, Fvg, Vng, Vtg, Eng, Etg, Ovg, ntg⟩ := P_0
  obtain ⟨T12_1, h12_1, X12_1, e12_1, E12_1, A12_1, D12_1, -, st12_1⟩ := newO X0 hx hZ hown (own_w hw 87 rfl) (own_w hw 88 rfl) (own_w hw 89 rfl) e0 (g := (mkF m 0 #[.val (.ref r0), .val (.ref r1), .unset, .unset] [])) rfl (hb hby d12_0) (by decide) (by decide)
  obtain ⟨b12_1, g12_1⟩ : ∃ z, z = h0.size := ⟨_, rfl⟩
  rw [← g12_1] at A12_1 D12_1 st12_1
  have ne_r0_b12_1 : r0 ≠ b12_1 := Nat.ne_of_lt (Nat.lt_of_lt_of_le Epg.lt (Nat.le_of_eq g12_1.symm))
  have ne_na_b12_1 : na ≠ b12_1 := Nat.ne_of_lt (Nat.lt_of_lt_of_le Vng.lt (Nat.le_of_eq g12_1.symm))
  have ne_ta_b12_1 : ta ≠ b12_1 := Nat.ne_of_lt (Nat.lt_of_lt_of_le Vtg.lt (Nat.le_of_eq g12_1.symm))
  have ne_r1_b12_1 : r1 ≠ b12_1 := Nat.ne_of_lt (Nat.lt_of_lt_of_le Et.lt (Nat.le_of_eq g12_1.symm))
  have ne_vb_b12_1 : vb ≠ b12_1 := Nat.ne_of_lt (Nat.lt_of_lt_of_le Vt.lt (Nat.le_of_eq g12_1.symm))
  have g_b12_1 : n0 ≤ b12_1 := Nat.le_trans Z0 (Nat.le_of_eq g12_1.symm)
  have sz_b12_1 : h0.size ≤ b12_1 := Nat.le_trans (Keep.refl h0 [r0, na, ta]).1 (Nat.le_of_eq g12_1.symm)
  have F_keywordPosition_b12_1 : Fld Z h12_1 b12_1 "com/example/copperline/copperline/Lexer" "keywordPosition" "I" (.int (0 : Int32)) := D12_1 (Or.inl (own_w hw 98 rfl)) (ty := .int) (by decide)
  have F_text_b12_1 : Fld Z h12_1 b12_1 "com/example/copperline/copperline/Lexer" "text" "Ljava/lang/String;" .null := D12_1 (Or.inr (own_w hw 100 rfl)) (ty := (.object "java/lang/String")) (by decide)
  have F_position_b12_1 : Fld Z h12_1 b12_1 "com/example/copperline/copperline/Lexer" "position" "I" (.int (0 : Int32)) := D12_1 (Or.inl (own_w hw 102 rfl)) (ty := .int) (by decide)
  have F_reading_b12_1 : Fld Z h12_1 b12_1 "com/example/copperline/copperline/Lexer" "reading" "Lcom/example/copperline/copperline/Lexer$Reading;" .null := D12_1 (Or.inr (own_w hw 104 rfl)) (ty := (.object "com/example/copperline/copperline/Lexer$Reading")) (by decide)
  refine own_fw (A := T12_1.setTop (mkF m 3 #[.val (.ref r0), .val (.ref r1), .unset, .unset] [(.ref b12_1)])) st12_1 ?_
  refine own_fw (fun _ => ox_dup X12_1.here hx (hb hby d12_3) rfl rfl) ?_
  refine own_fw (fun _ => ox_aloadN X12_1.here hx (hb hby d12_4) rfl rfl) ?_
  refine own_fw (fun _ => ox_iconst X12_1.here hx (hb hby d12_5)) ?_
  obtain ⟨T12_2, X12_2, e12_2, st12_2⟩ := getS2 X12_1 hx hZ hown (host := "") (Or.inl (own_w hw 90 rfl)) Via.refl e12_1 (S_r.ext (O_0.ext E12_1).2) (g := (mkF m 6 #[.val (.ref r0), .val (.ref r1), .unset, .unset] [(.int (0 : Int32)), (.ref r1), (.ref b12_1), (.ref b12_1)])) rfl (hb hby d12_6)
  refine own_fw (A := T12_2.setTop (mkF m 9 #[.val (.ref r0), .val (.ref r1), .unset, .unset] [(.ref ra), (.int (0 : Int32)), (.ref r1), (.ref b12_1), (.ref b12_1)])) st12_2 ?_
  refine own_ic X12_2 hx hZ hown (rm13 l Z a0 hw [] b12_1 r1 ra h12_1 n0 (Nat.le_trans Z0 E12_1.1) A12_1 F_text_b12_1 F_position_b12_1 F_keywordPosition_b12_1 F_reading_b12_1 g_b12_1) (own_w hw 93 rfl) (own_w hw 94 rfl) (own_w hw 95 rfl) (own_w hw 89 rfl) rfl (by decide) hml rfl e12_2 (hb hby d12_9) rfl rfl (lenOf pd12_0 rfl) (W := 1) rfl (by decide) (by decide) (c' := 1) (s' := 5) rfl rfl (by decide) (by decide) ?_
  rintro _ T12_3 L12_3 X12_3 ⟨rfl, N12_3q, K12_3, Ex12_3, Fx12_3, Fp12_3⟩
  have N12_3 := Fr.app N0 N12_3q
  have fc12_4 := ((Fng.ext E12_1).keep K12_3 (fun q => ne_r0_b12_1 (List.mem_singleton.mp q)))
  have fc12_5 := ((Ftg.ext E12_1).keep K12_3 (fun q => ne_r0_b12_1 (List.mem_singleton.mp q)))
  have fc12_6 := ((Fsg.ext E12_1).keep K12_3 (fun q => ne_r0_b12_1 (List.mem_singleton.mp q)))
  have fc12_7 := ((Fvg.ext E12_1).keep K12_3 (fun q => ne_r0_b12_1 (List.mem_singleton.mp q)))
  have fc12_8 := ((Vng.ext E12_1).keep K12_3 (fun q => ne_na_b12_1 (List.mem_singleton.mp q)))
  have fc12_9 := ((Vtg.ext E12_1).keep K12_3 (fun q => ne_ta_b12_1 (List.mem_singleton.mp q)))
  have fc12_10 := ((Svt.ext E12_1).keep K12_3 (fun q => ne_r1_b12_1 (List.mem_singleton.mp q)))
  have fc12_11 := ((Sct.ext E12_1).keep K12_3 (fun q => ne_r1_b12_1 (List.mem_singleton.mp q)))
  have fc12_12 := ((Vt.ext E12_1).keep K12_3 (fun q => ne_vb_b12_1 (List.mem_singleton.mp q)))
  have fc12_13 := (((Keep.refl h0 [r0, na, ta]).ext E12_1).trans K12_3 (allS (Or.inr sz_b12_1) all0))
  refine own_fw (fun _ => ox_astoreN X12_3.here hx (hb hby d12_12) rfl rfl (l' := #[.val (.ref r0), .val (.ref r1), .val (.ref b12_1), .unset]) rfl) ?_
  refine own_fw (fun _ => ox_aloadN X12_3.here hx (hb hby d12_13) rfl rfl) ?_
  refine own_vc X12_3 hx hZ hown (rmNU_L l Z a0 hw [] b12_1 r1 vb kb x0 x1 x2 x4 cc fv ra T12_3.heap n0 (Nat.le_trans (Nat.le_trans Z0 E12_1.1) K12_3.1) Ex12_3 Fx12_3 Fp12_3 ((Et.ext E12_1).keep K12_3) fc12_10 fc12_11 fc12_12 d0 d1 d2 l4 ne_r1_b12_1 ne_vb_b12_1 g_b12_1 ⟨((O_0.ext E12_1).keep K12_3 (allS g_b12_1 all0)), S_c, hcc, S_f, hfv, S_r⟩) (own_w hw 105 rfl) (own_w hw 106 rfl) (own_w hw 108 rfl) (own_w hw 107 rfl) (own_w hw 109 rfl) (own_w hw 89 rfl) (by decide) hml rfl Ex12_3 rfl (hb hby d12_14) rfl rfl (lenOf pd12_1 rfl) (W := 0) rfl (by decide) (by decide) (c' := 1) (s' := 5) rfl rfl (by decide) (by decide) ?_
  rintro _ T12_14 L12_14 X12_14 ⟨rfl, N12_14q, K12_14, Ex12_14, Fx12_14, Fp12_14⟩
  have N12_14 := Fr.app N12_3 N12_14q
  have fc12_15 := (fc12_4.keep K12_14 (fun q => ne_r0_b12_1 (List.mem_singleton.mp q)))
  have fc12_16 := (fc12_5.keep K12_14 (fun q => ne_r0_b12_1 (List.mem_singleton.mp q)))
  have fc12_17 := (fc12_6.keep K12_14 (fun q => ne_r0_b12_1 (List.mem_singleton.mp q)))
  have fc12_18 := (fc12_7.keep K12_14 (fun q => ne_r0_b12_1 (List.mem_singleton.mp q)))
  have fc12_19 := (fc12_8.keep K12_14 (fun q => ne_na_b12_1 (List.mem_singleton.mp q)))
  have fc12_20 := (fc12_9.keep K12_14 (fun q => ne_ta_b12_1 (List.mem_singleton.mp q)))
  have fc12_21 := (fc12_10.keep K12_14 (fun q => ne_r1_b12_1 (List.mem_singleton.mp q)))
  have fc12_22 := (fc12_11.keep K12_14 (fun q => ne_r1_b12_1 (List.mem_singleton.mp q)))
  have fc12_23 := (fc12_12.keep K12_14 (fun q => ne_vb_b12_1 (List.mem_singleton.mp q)))
  have fc12_24 := (((O_0.ext E12_1).keep K12_3 (allS g_b12_1 all0)).keep K12_14 (allS g_b12_1 all0))
  have fc12_25 := (Nat.le_trans (Nat.le_trans (Nat.le_trans Z0 E12_1.1) K12_3.1) K12_14.1)
  refine own_fw (fun _ => ox_istoreN X12_14.here hx (hb hby d12_17) rfl (l' := #[.val (.ref r0), .val (.ref r1), .val (.ref b12_1), .val (.int (own_num x0 x1 x2))]) rfl) ?_
  refine own_fw (fun _ => ox_iloadN X12_14.here hx (hb hby d12_18) rfl) ?_
  refine own_fw (fun _ => ox_ifNo X12_14.here hx (hb hby d12_19) rfl ((if0 _ _).trans (flt (own_nn d0 d1 d2)).1)) ?_
  refine own_fw (fun _ => ox_aloadN X12_14.here hx (hb hby d12_22) rfl rfl) ?_
  refine own_fw (fun _ => ox_iloadN X12_14.here hx (hb hby d12_23) rfl) ?_
  refine own_fw (fun _ => ox_aloadN X12_14.here hx (hb hby d12_24) rfl rfl) ?_
  refine own_vc X12_14 hx hZ hown (rmRE_L l Z a0 hw [] b12_1 r1 vb kb x0 x1 x2 x4 cc fv ra T12_14.heap n0 fc12_25 Ex12_14 Fx12_14 Fp12_14 (((Et.ext E12_1).keep K12_3).keep K12_14) fc12_21 fc12_22 fc12_23 d0 d1 d2 l4 ne_r1_b12_1 ne_vb_b12_1 g_b12_1 ⟨fc12_24, S_c, hcc, S_f, hfv, S_r⟩) (own_w hw 158 rfl) (own_w hw 159 rfl) (own_w hw 161 rfl) (own_w hw 160 rfl) (own_w hw 162 rfl) (own_w hw 89 rfl) (by decide) hml rfl Ex12_14 rfl (hb hby d12_25) rfl rfl (lenOf pd12_2 rfl) (W := 2) rfl (by decide) (by decide) (c' := 3) (s' := 10) rfl rfl (by decide) (by decide) ?_
  rintro _ T12_26 L12_26 X12_26 ⟨rs12_26, bs12_26, kb12_26, rfl, N12_26q, K12_26, E12_26, Sv12_26, Vb12_26, zr12_26, zb12_26⟩
  have N12_26 := Fr.app N12_14 N12_26q
  have fc12_27 := (fc12_15.keep K12_26 (fun q => ne_r0_b12_1 (List.mem_singleton.mp q)))
  have fc12_28 := (fc12_16.keep K12_26 (fun q => ne_r0_b12_1 (List.mem_singleton.mp q)))
  have fc12_29 := (fc12_17.keep K12_26 (fun q => ne_r0_b12_1 (List.mem_singleton.mp q)))
  have fc12_30 := (fc12_18.keep K12_26 (fun q => ne_r0_b12_1 (List.mem_singleton.mp q)))
  have fc12_31 := (fc12_19.keep K12_26 (fun q => ne_na_b12_1 (List.mem_singleton.mp q)))
  have fc12_32 := (fc12_20.keep K12_26 (fun q => ne_ta_b12_1 (List.mem_singleton.mp q)))
  have fc12_36 := ((fc12_13.trans K12_14 (allS (Or.inr sz_b12_1) all0)).trans K12_26 (allS (Or.inr sz_b12_1) all0))
  refine own_pc X12_26 hx hZ hown (rmST_1 l Z a0 hw [] r0 (own_num x0 x1 x2) rs12_26 na ta kn kt ver a t0 bs12_26 kb12_26 (1 : Int32) [(.int x4)] T12_26.heap n0 (Nat.le_trans fc12_25 K12_26.1) ⟨((((Epg.ext E12_1).keep K12_3).keep K12_14).keep K12_26), fc12_27, fc12_28, fc12_29, fc12_30, fc12_31, fc12_32, ((((Eng.ext E12_1).keep K12_3).keep K12_14).keep K12_26), ((((Etg.ext E12_1).keep K12_3).keep K12_14).keep K12_26), Ovg, ntg⟩ E12_26 Sv12_26 Vb12_26 (by decide) g_r0 g_na g_ta ((((Et0.ext E12_1).keep K12_3).keep K12_14).keep K12_26) ha (own_nn d0 d1 d2)) (own_w hw 205 rfl) (own_w hw 207 rfl) (own_selP (y := mN5) (own_w hw 1 rfl) (own_w hw 207 rfl) (own_w hw 206 rfl) (by decide)) (own_w hw 206 rfl) (own_w hw 208 rfl) (own_w hw 2 rfl) (by decide) hml rfl ((((Epg.ext E12_1).keep K12_3).keep K12_14).keep K12_26) rfl (hb hby d12_28) rfl rfl (lenOf pd12_3 rfl) (W := 0) rfl (by decide) (by decide) (c' := 3) (s' := 10) rfl rfl (by decide) (by decide) ?_
  rintro _ T12_37 L12_37 X12_37 ⟨rfl, N12_37q, K12_37, R12_37⟩
  have N12_37 := Fr.app N12_26 N12_37q
  have fc12_46 := (fc12_36.trans K12_37 (allS (Or.inl (List.mem_of_getElem? (i := 0) rfl)) (allS (Or.inl (List.mem_of_getElem? (i := 1) rfl)) (allS (Or.inl (List.mem_of_getElem? (i := 2) rfl)) all0))))
  refine own_fw (fun _ => ox_iloadN X12_37.here hx (hb hby d12_31) rfl) ?_
  refine own_fw (fun _ => ox_ifNo X12_37.here hx (hb hby d12_32) rfl ((if0 _ _).trans (flt (own_nn d0 d1 d2)).1)) ?_
  refine own_fw (fun _ => ox_iconst X12_37.here hx (hb hby d12_35)) ?_
  refine own_fw (fun _ => ox_goto X12_37.here hx (pc0 := 36) (pc' := 40) rfl (hb hby d12_36) (by decide) (by decide)) ?_
  exact own_leaf X12_37 (v := some (.int (nar .boolean (1 : Int32)))) (own_ret Bd.returns) (BodyLoose.notSynchronized Bd) rfl (⟨rfl, N12_37, fc12_46, R12_37⟩) (by decide) (by decide) (fun fs hr => retN X12_37 hx (t := .boolean) Bd.returns (by simp) (hb hby d12_40) hr)
theorem rmEN_Z0 (l : Launch) (Z : State) (a0 : Array Value) (hw : ∀ d ∈ tables_1, d.before a0 Z = true) (ws : List Jvm.Cond) (r0 : Addr) (r1 : Addr) (na : Addr) (ta : Addr) (kn : ClassId) (kt : ClassId) (ver : Int32) (vb : Addr) (kb : ClassId) (cc : Int32) (fv : Value) (ra : Addr) (h0 : Heap) (n0 : Nat) (Z0 : n0 ≤ h0.size) (P_0 : OwnPG Z h0 r0 na ta kn kt (0 : Int32) ver (0 : Int32) (0 : Int32) .null .null) (Et : Exa Z h0 r1 "java/lang/String") (Svt : Fld Z h0 r1 "java/lang/String" "value" "[B" (.ref vb)) (Sct : Fld Z h0 r1 "java/lang/String" "coder" "B" (.int 0)) (Vt : Arv Z h0 vb kb .byte (4 : Int32) [(.int (48 : Int32)), (.int (32 : Int32)), (.int (90 : Int32)), (.int (90 : Int32))] (.int 0)) (g_r0 : n0 ≤ r0) (g_na : n0 ≤ na) (g_ta : n0 ≤ ta) (OO : OwnOld Z n0 h0 cc fv ra) : OwnC l Z mN6 (Jvm.Cond.code mN6 prog_49_method_10_code 4 (some .boolean) :: ws) ({ frames := 7, cells := 3, slots := 11, locals := 108 } : Room) #[(.ref r0), (.ref r1)] h0 (Q12 Z r0 na ta (fun h => OwnN1 Z r0 na ta kn kt (ver + (1 : Int32)) h) h0 n0) := by
  refine own_body (plainFor_of_name pn12) (fun m => ef12 m r0 r1) ?_
  intro p e s m below meth c s₁ Bd hZ hml hown e0 hx hby hnm X0
  have N0 := Fr.nil n0
  obtain ⟨O_0, S_c, hcc, S_f, hfv, S_r⟩ := OO
  obtain ⟨Epg, Fng, Ftg, Fsg, Fvg, Vng, Vtg, Eng, Etg, Ovg, ntg⟩ := P_0
  obtain ⟨T12_1, h12_1, X12_1, e12_1, E12_1, A12_1, D12_1, -, st12_1⟩ := newO X0 hx hZ hown (own_w hw 87 rfl) (own_w hw 88 rfl) (own_w hw 89 rfl) e0 (g := (mkF m 0 #[.val (.ref r0), .val (.ref r1), .unset, .unset] [])) rfl (hb hby d12_0) (by decide) (by decide)
  obtain ⟨b12_1, g12_1⟩ : ∃ z, z = h0.size := ⟨_, rfl⟩
  rw [← g12_1] at A12_1 D12_1 st12_1
  have ne_r0_b12_1 : r0 ≠ b12_1 := Nat.ne_of_lt (Nat.lt_of_lt_of_le Epg.lt (Nat.le_of_eq g12_1.symm))
  have ne_na_b12_1 : na ≠ b12_1 := Nat.ne_of_lt (Nat.lt_of_lt_of_le Vng.lt (Nat.le_of_eq g12_1.symm))
  have ne_ta_b12_1 : ta ≠ b12_1 := Nat.ne_of_lt (Nat.lt_of_lt_of_le Vtg.lt (Nat.le_of_eq g12_1.symm))
  have ne_r1_b12_1 : r1 ≠ b12_1 := Nat.ne_of_lt (Nat.lt_of_lt_of_le Et.lt (Nat.le_of_eq g12_1.symm))
  have ne_vb_b12_1 : vb ≠ b12_1 := Nat.ne_of_lt (Nat.lt_of_lt_of_le Vt.lt (Nat.le_of_eq g12_1.symm))
  have g_b12_1 : n0 ≤ b12_1 := Nat.le_trans Z0 (Nat.le_of_eq g12_1.symm)
  have sz_b12_1 : h0.size ≤ b12_1 := Nat.le_trans (Keep.refl h0 [r0, na, ta]).1 (Nat.le_of_eq g12_1.symm)
  have F_keywordPosition_b12_1 : Fld Z h12_1 b12_1 "com/example/copperline/copperline/Lexer" "keywordPosition" "I" (.int (0 : Int32)) := D12_1 (Or.inl (own_w hw 98 rfl)) (ty := .int) (by decide)
  have F_text_b12_1 : Fld Z h12_1 b12_1 "com/example/copperline/copperline/Lexer" "text" "Ljava/lang/String;" .null := D12_1 (Or.inr (own_w hw 100 rfl)) (ty := (.object "java/lang/String")) (by decide)
  have F_position_b12_1 : Fld Z h12_1 b12_1 "com/example/copperline/copperline/Lexer" "position" "I" (.int (0 : Int32)) := D12_1 (Or.inl (own_w hw 102 rfl)) (ty := .int) (by decide)
  have F_reading_b12_1 : Fld Z h12_1 b12_1 "com/example/copperline/copperline/Lexer" "reading" "Lcom/example/copperline/copperline/Lexer$Reading;" .null := D12_1 (Or.inr (own_w hw 104 rfl)) (ty := (.object "com/example/copperline/copperline/Lexer$Reading")) (by decide)
  refine own_fw (A := T12_1.setTop (mkF m 3 #[.val (.ref r0), .val (.ref r1), .unset, .unset] [(.ref b12_1)])) st12_1 ?_
  refine own_fw (fun _ => ox_dup X12_1.here hx (hb hby d12_3) rfl rfl) ?_
  refine own_fw (fun _ => ox_aloadN X12_1.here hx (hb hby d12_4) rfl rfl) ?_
  refine own_fw (fun _ => ox_iconst X12_1.here hx (hb hby d12_5)) ?_
  obtain ⟨T12_2, X12_2, e12_2, st12_2⟩ := getS2 X12_1 hx hZ hown (host := "") (Or.inl (own_w hw 90 rfl)) Via.refl e12_1 (S_r.ext (O_0.ext E12_1).2) (g := (mkF m 6 #[.val (.ref r0), .val (.ref r1), .unset, .unset] [(.int (0 : Int32)), (.ref r1), (.ref b12_1), (.ref b12_1)])) rfl (hb hby d12_6)
  refine own_fw (A := T12_2.setTop (mkF m 9 #[.val (.ref r0), .val (.ref r1), .unset, .unset] [(.ref ra), (.int (0 : Int32)), (.ref r1), (.ref b12_1), (.ref b12_1)])) st12_2 ?_
  refine own_ic X12_2 hx hZ hown (rm13 l Z a0 hw [] b12_1 r1 ra h12_1 n0 (Nat.le_trans Z0 E12_1.1) A12_1 F_text_b12_1 F_position_b12_1 F_keywordPosition_b12_1 F_reading_b12_1 g_b12_1) (own_w hw 93 rfl) (own_w hw 94 rfl) (own_w hw 95 rfl) (own_w hw 89 rfl) rfl (by decide) hml rfl e12_2 (hb hby d12_9) rfl rfl (lenOf pd12_0 rfl) (W := 1) rfl (by decide) (by decide) (c' := 1) (s' := 5) rfl rfl (by decide) (by decide) ?_
  rintro _ T12_3 L12_3 X12_3 ⟨rfl, N12_3q, K12_3, Ex12_3, Fx12_3, Fp12_3⟩
  have N12_3 := Fr.app N0 N12_3q
  have fc12_4 := ((Fng.ext E12_1).keep K12_3 (fun q => ne_r0_b12_1 (List.mem_singleton.mp q)))
  have fc12_5 := ((Ftg.ext E12_1).keep K12_3 (fun q => ne_r0_b12_1 (List.mem_singleton.mp q)))
  have fc12_6 := ((Fsg.ext E12_1).keep K12_3 (fun q => ne_r0_b12_1 (List.mem_singleton.mp q)))
  have fc12_7 := ((Fvg.ext E12_1).keep K12_3 (fun q => ne_r0_b12_1 (List.mem_singleton.mp q)))
  have fc12_8 := ((Vng.ext E12_1).keep K12_3 (fun q => ne_na_b12_1 (List.mem_singleton.mp q)))
  have fc12_9 := ((Vtg.ext E12_1).keep K12_3 (fun q => ne_ta_b12_1 (List.mem_singleton.mp q)))
  have fc12_10 := ((Svt.ext E12_1).keep K12_3 (fun q => ne_r1_b12_1 (List.mem_singleton.mp q)))
  have fc12_11 := ((Sct.ext E12_1).keep K12_3 (fun q => ne_r1_b12_1 (List.mem_singleton.mp q)))
  have fc12_12 := ((Vt.ext E12_1).keep K12_3 (fun q => ne_vb_b12_1 (List.mem_singleton.mp q)))
  have fc12_13 := (((Keep.refl h0 [r0, na, ta]).ext E12_1).trans K12_3 (allS (Or.inr sz_b12_1) all0))
  refine own_fw (fun _ => ox_astoreN X12_3.here hx (hb hby d12_12) rfl rfl (l' := #[.val (.ref r0), .val (.ref r1), .val (.ref b12_1), .unset]) rfl) ?_
  refine own_fw (fun _ => ox_aloadN X12_3.here hx (hb hby d12_13) rfl rfl) ?_
  refine own_vc X12_3 hx hZ hown (rmNU_Z l Z a0 hw [] b12_1 r1 vb kb cc fv ra T12_3.heap n0 (Nat.le_trans (Nat.le_trans Z0 E12_1.1) K12_3.1) Ex12_3 Fx12_3 Fp12_3 ((Et.ext E12_1).keep K12_3) fc12_10 fc12_11 fc12_12 ne_r1_b12_1 ne_vb_b12_1 g_b12_1 ⟨((O_0.ext E12_1).keep K12_3 (allS g_b12_1 all0)), S_c, hcc, S_f, hfv, S_r⟩) (own_w hw 105 rfl) (own_w hw 106 rfl) (own_w hw 108 rfl) (own_w hw 107 rfl) (own_w hw 109 rfl) (own_w hw 89 rfl) (by decide) hml rfl Ex12_3 rfl (hb hby d12_14) rfl rfl (lenOf pd12_1 rfl) (W := 0) rfl (by decide) (by decide) (c' := 1) (s' := 5) rfl rfl (by decide) (by decide) ?_
  rintro _ T12_14 L12_14 X12_14 ⟨rfl, N12_14q, K12_14, Ex12_14, Fx12_14, Fp12_14⟩
  have N12_14 := Fr.app N12_3 N12_14q
  have fc12_15 := (fc12_4.keep K12_14 (fun q => ne_r0_b12_1 (List.mem_singleton.mp q)))
  have fc12_16 := (fc12_5.keep K12_14 (fun q => ne_r0_b12_1 (List.mem_singleton.mp q)))
  have fc12_17 := (fc12_6.keep K12_14 (fun q => ne_r0_b12_1 (List.mem_singleton.mp q)))
  have fc12_18 := (fc12_7.keep K12_14 (fun q => ne_r0_b12_1 (List.mem_singleton.mp q)))
  have fc12_19 := (fc12_8.keep K12_14 (fun q => ne_na_b12_1 (List.mem_singleton.mp q)))
  have fc12_20 := (fc12_9.keep K12_14 (fun q => ne_ta_b12_1 (List.mem_singleton.mp q)))
  have fc12_21 := (fc12_10.keep K12_14 (fun q => ne_r1_b12_1 (List.mem_singleton.mp q)))
  have fc12_22 := (fc12_11.keep K12_14 (fun q => ne_r1_b12_1 (List.mem_singleton.mp q)))
  have fc12_23 := (fc12_12.keep K12_14 (fun q => ne_vb_b12_1 (List.mem_singleton.mp q)))
  have fc12_24 := (((O_0.ext E12_1).keep K12_3 (allS g_b12_1 all0)).keep K12_14 (allS g_b12_1 all0))
  have fc12_25 := (Nat.le_trans (Nat.le_trans (Nat.le_trans Z0 E12_1.1) K12_3.1) K12_14.1)
  refine own_fw (fun _ => ox_istoreN X12_14.here hx (hb hby d12_17) rfl (l' := #[.val (.ref r0), .val (.ref r1), .val (.ref b12_1), .val (.int (0 : Int32))]) rfl) ?_
  refine own_fw (fun _ => ox_iloadN X12_14.here hx (hb hby d12_18) rfl) ?_
  refine own_fw (fun _ => ox_ifNo X12_14.here hx (hb hby d12_19) rfl ((if0 _ _).trans (flt (Int32.lt_irrefl : ¬ ((0 : Int32) < (0 : Int32)))).1)) ?_
  refine own_fw (fun _ => ox_aloadN X12_14.here hx (hb hby d12_22) rfl rfl) ?_
  refine own_fw (fun _ => ox_iloadN X12_14.here hx (hb hby d12_23) rfl) ?_
  refine own_fw (fun _ => ox_aloadN X12_14.here hx (hb hby d12_24) rfl rfl) ?_
  refine own_vc X12_14 hx hZ hown (rmRE_Z l Z a0 hw [] b12_1 r1 vb kb cc fv ra T12_14.heap n0 fc12_25 Ex12_14 Fx12_14 Fp12_14 (((Et.ext E12_1).keep K12_3).keep K12_14) fc12_21 fc12_22 fc12_23 ne_r1_b12_1 ne_vb_b12_1 g_b12_1 ⟨fc12_24, S_c, hcc, S_f, hfv, S_r⟩) (own_w hw 158 rfl) (own_w hw 159 rfl) (own_w hw 161 rfl) (own_w hw 160 rfl) (own_w hw 162 rfl) (own_w hw 89 rfl) (by decide) hml rfl Ex12_14 rfl (hb hby d12_25) rfl rfl (lenOf pd12_2 rfl) (W := 2) rfl (by decide) (by decide) (c' := 3) (s' := 11) rfl rfl (by decide) (by decide) ?_
  rintro _ T12_26 L12_26 X12_26 ⟨rs12_26, bs12_26, kb12_26, rfl, N12_26q, K12_26, E12_26, Sv12_26, Vb12_26, zr12_26, zb12_26⟩
  have N12_26 := Fr.app N12_14 N12_26q
  have fc12_27 := (fc12_15.keep K12_26 (fun q => ne_r0_b12_1 (List.mem_singleton.mp q)))
  have fc12_28 := (fc12_16.keep K12_26 (fun q => ne_r0_b12_1 (List.mem_singleton.mp q)))
  have fc12_29 := (fc12_17.keep K12_26 (fun q => ne_r0_b12_1 (List.mem_singleton.mp q)))
  have fc12_30 := (fc12_18.keep K12_26 (fun q => ne_r0_b12_1 (List.mem_singleton.mp q)))
  have fc12_31 := (fc12_19.keep K12_26 (fun q => ne_na_b12_1 (List.mem_singleton.mp q)))
  have fc12_32 := (fc12_20.keep K12_26 (fun q => ne_ta_b12_1 (List.mem_singleton.mp q)))
  have fc12_36 := ((fc12_13.trans K12_14 (allS (Or.inr sz_b12_1) all0)).trans K12_26 (allS (Or.inr sz_b12_1) all0))
  refine own_pc X12_26 hx hZ hown (rmST_0 l Z a0 hw [] r0 (0 : Int32) rs12_26 na ta kn kt ver bs12_26 kb12_26 (2 : Int32) [(.int (90 : Int32)), (.int (90 : Int32))] T12_26.heap n0 (Nat.le_trans fc12_25 K12_26.1) ⟨((((Epg.ext E12_1).keep K12_3).keep K12_14).keep K12_26), fc12_27, fc12_28, fc12_29, fc12_30, fc12_31, fc12_32, ((((Eng.ext E12_1).keep K12_3).keep K12_14).keep K12_26), ((((Etg.ext E12_1).keep K12_3).keep K12_14).keep K12_26), Ovg, ntg⟩ E12_26 Sv12_26 Vb12_26 (by decide) g_r0 g_na g_ta) (own_w hw 205 rfl) (own_w hw 207 rfl) (own_selP (y := mN5) (own_w hw 1 rfl) (own_w hw 207 rfl) (own_w hw 206 rfl) (by decide)) (own_w hw 206 rfl) (own_w hw 208 rfl) (own_w hw 2 rfl) (by decide) hml rfl ((((Epg.ext E12_1).keep K12_3).keep K12_14).keep K12_26) rfl (hb hby d12_28) rfl rfl (lenOf pd12_3 rfl) (W := 0) rfl (by decide) (by decide) (c' := 3) (s' := 11) rfl rfl (by decide) (by decide) ?_
  rintro _ T12_37 L12_37 X12_37 ⟨rfl, N12_37q, K12_37, R12_37⟩
  have N12_37 := Fr.app N12_26 N12_37q
  have fc12_45 := (fc12_36.trans K12_37 (allS (Or.inl (List.mem_of_getElem? (i := 0) rfl)) (allS (Or.inl (List.mem_of_getElem? (i := 1) rfl)) (allS (Or.inl (List.mem_of_getElem? (i := 2) rfl)) all0))))
  refine own_fw (fun _ => ox_iloadN X12_37.here hx (hb hby d12_31) rfl) ?_
  refine own_fw (fun _ => ox_ifNo X12_37.here hx (hb hby d12_32) rfl ((if0 _ _).trans (flt (Int32.lt_irrefl : ¬ ((0 : Int32) < (0 : Int32)))).1)) ?_
  refine own_fw (fun _ => ox_iconst X12_37.here hx (hb hby d12_35)) ?_
  refine own_fw (fun _ => ox_goto X12_37.here hx (pc0 := 36) (pc' := 40) rfl (hb hby d12_36) (by decide) (by decide)) ?_
  exact own_leaf X12_37 (v := some (.int (nar .boolean (1 : Int32)))) (own_ret Bd.returns) (BodyLoose.notSynchronized Bd) rfl (⟨rfl, N12_37, fc12_45, ⟨(0 : Int32), rs12_26, by decide, R12_37.1, R12_37.2⟩⟩) (by decide) (by decide) (fun fs hr => retN X12_37 hx (t := .boolean) Bd.returns (by simp) (hb hby d12_40) hr)
theorem rmEN_Z1 (l : Launch) (Z : State) (a0 : Array Value) (hw : ∀ d ∈ tables_1, d.before a0 Z = true) (ws : List Jvm.Cond) (r0 : Addr) (r1 : Addr) (na : Addr) (ta : Addr) (kn : ClassId) (kt : ClassId) (ver : Int32) (a : Int32) (t0 : Addr) (vb : Addr) (kb : ClassId) (cc : Int32) (fv : Value) (ra : Addr) (h0 : Heap) (n0 : Nat) (Z0 : n0 ≤ h0.size) (P_0 : OwnPG Z h0 r0 na ta kn kt (1 : Int32) ver a (0 : Int32) (.ref t0) .null) (Et : Exa Z h0 r1 "java/lang/String") (Svt : Fld Z h0 r1 "java/lang/String" "value" "[B" (.ref vb)) (Sct : Fld Z h0 r1 "java/lang/String" "coder" "B" (.int 0)) (Vt : Arv Z h0 vb kb .byte (4 : Int32) [(.int (48 : Int32)), (.int (32 : Int32)), (.int (90 : Int32)), (.int (90 : Int32))] (.int 0)) (g_r0 : n0 ≤ r0) (g_na : n0 ≤ na) (g_ta : n0 ≤ ta) (Et0 : Exa Z h0 t0 "java/lang/String") (ha : ¬ a < (0 : Int32)) (OO : OwnOld Z n0 h0 cc fv ra) : OwnC l Z mN6 (Jvm.Cond.code mN6 prog_49_method_10_code 4 (some .boolean) :: ws) ({ frames := 7, cells := 3, slots := 11, locals := 108 } : Room) #[(.ref r0), (.ref r1)] h0 (Q12 Z r0 na ta (fun h => OwnN1 Z r0 na ta kn kt (ver + (1 : Int32)) h ∨ OwnN2 Z r0 na ta kn kt (ver + (1 : Int32)) h) h0 n0) := by
  refine own_body (plainFor_of_name pn12) (fun m => ef12 m r0 r1) ?_
  intro p e s m below meth c s₁ Bd hZ hml hown e0 hx hby hnm X0
  have N0 := Fr.nil n0
  obtain ⟨O_0, S_c, hcc, S_f, hfv, S_r⟩ := OO
  obtain ⟨Epg, Fng, Ftg, Fsg, Fvg, Vng, Vtg, Eng, Etg, Ovg, ntg⟩ := P_0
  obtain ⟨T12_1, h12_1, X12_1, e12_1, E12_1, A12_1, D12_1, -, st12_1⟩ := newO X0 hx hZ hown (own_w hw 87 rfl) (own_w hw 88 rfl) (own_w hw 89 rfl) e0 (g := (mkF m 0 #[.val (.ref r0), .val (.ref r1), .unset, .unset] [])) rfl (hb hby d12_0) (by decide) (by decide)
  obtain ⟨b12_1, g12_1⟩ : ∃ z, z = h0.size := ⟨_, rfl⟩
  rw [← g12_1] at A12_1 D12_1 st12_1
  have ne_r0_b12_1 : r0 ≠ b12_1 := Nat.ne_of_lt (Nat.lt_of_lt_of_le Epg.lt (Nat.le_of_eq g12_1.symm))
  have ne_na_b12_1 : na ≠ b12_1 := Nat.ne_of_lt (Nat.lt_of_lt_of_le Vng.lt (Nat.le_of_eq g12_1.symm))
  have ne_ta_b12_1 : ta ≠ b12_1 := Nat.ne_of_lt (Nat.lt_of_lt_of_le Vtg.lt (Nat.le_of_eq g12_1.symm))
  have ne_r1_b12_1 : r1 ≠ b12_1 := Nat.ne_of_lt (Nat.lt_of_lt_of_le Et.lt (Nat.le_of_eq g12_1.symm))
  have ne_vb_b12_1 : vb ≠ b12_1 := Nat.ne_of_lt (Nat.lt_of_lt_of_le Vt.lt (Nat.le_of_eq g12_1.symm))
  have g_b12_1 : n0 ≤ b12_1 := Nat.le_trans Z0 (Nat.le_of_eq g12_1.symm)
  have sz_b12_1 : h0.size ≤ b12_1 := Nat.le_trans (Keep.refl h0 [r0, na, ta]).1 (Nat.le_of_eq g12_1.symm)
  have F_keywordPosition_b12_1 : Fld Z h12_1 b12_1 "com/example/copperline/copperline/Lexer" "keywordPosition" "I" (.int (0 : Int32)) := D12_1 (Or.inl (own_w hw 98 rfl)) (ty := .int) (by decide)
  have F_text_b12_1 : Fld Z h12_1 b12_1 "com/example/copperline/copperline/Lexer" "text" "Ljava/lang/String;" .null := D12_1 (Or.inr (own_w hw 100 rfl)) (ty := (.object "java/lang/String")) (by decide)
  have F_position_b12_1 : Fld Z h12_1 b12_1 "com/example/copperline/copperline/Lexer" "position" "I" (.int (0 : Int32)) := D12_1 (Or.inl (own_w hw 102 rfl)) (ty := .int) (by decide)
  have F_reading_b12_1 : Fld Z h12_1 b12_1 "com/example/copperline/copperline/Lexer" "reading" "Lcom/example/copperline/copperline/Lexer$Reading;" .null := D12_1 (Or.inr (own_w hw 104 rfl)) (ty := (.object "com/example/copperline/copperline/Lexer$Reading")) (by decide)
  refine own_fw (A := T12_1.setTop (mkF m 3 #[.val (.ref r0), .val (.ref r1), .unset, .unset] [(.ref b12_1)])) st12_1 ?_
  refine own_fw (fun _ => ox_dup X12_1.here hx (hb hby d12_3) rfl rfl) ?_
  refine own_fw (fun _ => ox_aloadN X12_1.here hx (hb hby d12_4) rfl rfl) ?_
  refine own_fw (fun _ => ox_iconst X12_1.here hx (hb hby d12_5)) ?_
  obtain ⟨T12_2, X12_2, e12_2, st12_2⟩ := getS2 X12_1 hx hZ hown (host := "") (Or.inl (own_w hw 90 rfl)) Via.refl e12_1 (S_r.ext (O_0.ext E12_1).2) (g := (mkF m 6 #[.val (.ref r0), .val (.ref r1), .unset, .unset] [(.int (0 : Int32)), (.ref r1), (.ref b12_1), (.ref b12_1)])) rfl (hb hby d12_6)
  refine own_fw (A := T12_2.setTop (mkF m 9 #[.val (.ref r0), .val (.ref r1), .unset, .unset] [(.ref ra), (.int (0 : Int32)), (.ref r1), (.ref b12_1), (.ref b12_1)])) st12_2 ?_
  refine own_ic X12_2 hx hZ hown (rm13 l Z a0 hw [] b12_1 r1 ra h12_1 n0 (Nat.le_trans Z0 E12_1.1) A12_1 F_text_b12_1 F_position_b12_1 F_keywordPosition_b12_1 F_reading_b12_1 g_b12_1) (own_w hw 93 rfl) (own_w hw 94 rfl) (own_w hw 95 rfl) (own_w hw 89 rfl) rfl (by decide) hml rfl e12_2 (hb hby d12_9) rfl rfl (lenOf pd12_0 rfl) (W := 1) rfl (by decide) (by decide) (c' := 1) (s' := 5) rfl rfl (by decide) (by decide) ?_
  rintro _ T12_3 L12_3 X12_3 ⟨rfl, N12_3q, K12_3, Ex12_3, Fx12_3, Fp12_3⟩
  have N12_3 := Fr.app N0 N12_3q
  have fc12_4 := ((Fng.ext E12_1).keep K12_3 (fun q => ne_r0_b12_1 (List.mem_singleton.mp q)))
  have fc12_5 := ((Ftg.ext E12_1).keep K12_3 (fun q => ne_r0_b12_1 (List.mem_singleton.mp q)))
  have fc12_6 := ((Fsg.ext E12_1).keep K12_3 (fun q => ne_r0_b12_1 (List.mem_singleton.mp q)))
  have fc12_7 := ((Fvg.ext E12_1).keep K12_3 (fun q => ne_r0_b12_1 (List.mem_singleton.mp q)))
  have fc12_8 := ((Vng.ext E12_1).keep K12_3 (fun q => ne_na_b12_1 (List.mem_singleton.mp q)))
  have fc12_9 := ((Vtg.ext E12_1).keep K12_3 (fun q => ne_ta_b12_1 (List.mem_singleton.mp q)))
  have fc12_10 := ((Svt.ext E12_1).keep K12_3 (fun q => ne_r1_b12_1 (List.mem_singleton.mp q)))
  have fc12_11 := ((Sct.ext E12_1).keep K12_3 (fun q => ne_r1_b12_1 (List.mem_singleton.mp q)))
  have fc12_12 := ((Vt.ext E12_1).keep K12_3 (fun q => ne_vb_b12_1 (List.mem_singleton.mp q)))
  have fc12_13 := (((Keep.refl h0 [r0, na, ta]).ext E12_1).trans K12_3 (allS (Or.inr sz_b12_1) all0))
  refine own_fw (fun _ => ox_astoreN X12_3.here hx (hb hby d12_12) rfl rfl (l' := #[.val (.ref r0), .val (.ref r1), .val (.ref b12_1), .unset]) rfl) ?_
  refine own_fw (fun _ => ox_aloadN X12_3.here hx (hb hby d12_13) rfl rfl) ?_
  refine own_vc X12_3 hx hZ hown (rmNU_Z l Z a0 hw [] b12_1 r1 vb kb cc fv ra T12_3.heap n0 (Nat.le_trans (Nat.le_trans Z0 E12_1.1) K12_3.1) Ex12_3 Fx12_3 Fp12_3 ((Et.ext E12_1).keep K12_3) fc12_10 fc12_11 fc12_12 ne_r1_b12_1 ne_vb_b12_1 g_b12_1 ⟨((O_0.ext E12_1).keep K12_3 (allS g_b12_1 all0)), S_c, hcc, S_f, hfv, S_r⟩) (own_w hw 105 rfl) (own_w hw 106 rfl) (own_w hw 108 rfl) (own_w hw 107 rfl) (own_w hw 109 rfl) (own_w hw 89 rfl) (by decide) hml rfl Ex12_3 rfl (hb hby d12_14) rfl rfl (lenOf pd12_1 rfl) (W := 0) rfl (by decide) (by decide) (c' := 1) (s' := 5) rfl rfl (by decide) (by decide) ?_
  rintro _ T12_14 L12_14 X12_14 ⟨rfl, N12_14q, K12_14, Ex12_14, Fx12_14, Fp12_14⟩
  have N12_14 := Fr.app N12_3 N12_14q
  have fc12_15 := (fc12_4.keep K12_14 (fun q => ne_r0_b12_1 (List.mem_singleton.mp q)))
  have fc12_16 := (fc12_5.keep K12_14 (fun q => ne_r0_b12_1 (List.mem_singleton.mp q)))
  have fc12_17 := (fc12_6.keep K12_14 (fun q => ne_r0_b12_1 (List.mem_singleton.mp q)))
  have fc12_18 := (fc12_7.keep K12_14 (fun q => ne_r0_b12_1 (List.mem_singleton.mp q)))
  have fc12_19 := (fc12_8.keep K12_14 (fun q => ne_na_b12_1 (List.mem_singleton.mp q)))
  have fc12_20 := (fc12_9.keep K12_14 (fun q => ne_ta_b12_1 (List.mem_singleton.mp q)))
  have fc12_21 := (fc12_10.keep K12_14 (fun q => ne_r1_b12_1 (List.mem_singleton.mp q)))
  have fc12_22 := (fc12_11.keep K12_14 (fun q => ne_r1_b12_1 (List.mem_singleton.mp q)))
  have fc12_23 := (fc12_12.keep K12_14 (fun q => ne_vb_b12_1 (List.mem_singleton.mp q)))
  have fc12_24 := (((O_0.ext E12_1).keep K12_3 (allS g_b12_1 all0)).keep K12_14 (allS g_b12_1 all0))
  have fc12_25 := (Nat.le_trans (Nat.le_trans (Nat.le_trans Z0 E12_1.1) K12_3.1) K12_14.1)
  refine own_fw (fun _ => ox_istoreN X12_14.here hx (hb hby d12_17) rfl (l' := #[.val (.ref r0), .val (.ref r1), .val (.ref b12_1), .val (.int (0 : Int32))]) rfl) ?_
  refine own_fw (fun _ => ox_iloadN X12_14.here hx (hb hby d12_18) rfl) ?_
  refine own_fw (fun _ => ox_ifNo X12_14.here hx (hb hby d12_19) rfl ((if0 _ _).trans (flt (Int32.lt_irrefl : ¬ ((0 : Int32) < (0 : Int32)))).1)) ?_
  refine own_fw (fun _ => ox_aloadN X12_14.here hx (hb hby d12_22) rfl rfl) ?_
  refine own_fw (fun _ => ox_iloadN X12_14.here hx (hb hby d12_23) rfl) ?_
  refine own_fw (fun _ => ox_aloadN X12_14.here hx (hb hby d12_24) rfl rfl) ?_
  refine own_vc X12_14 hx hZ hown (rmRE_Z l Z a0 hw [] b12_1 r1 vb kb cc fv ra T12_14.heap n0 fc12_25 Ex12_14 Fx12_14 Fp12_14 (((Et.ext E12_1).keep K12_3).keep K12_14) fc12_21 fc12_22 fc12_23 ne_r1_b12_1 ne_vb_b12_1 g_b12_1 ⟨fc12_24, S_c, hcc, S_f, hfv, S_r⟩) (own_w hw 158 rfl) (own_w hw 159 rfl) (own_w hw 161 rfl) (own_w hw 160 rfl) (own_w hw 162 rfl) (own_w hw 89 rfl) (by decide) hml rfl Ex12_14 rfl (hb hby d12_25) rfl rfl (lenOf pd12_2 rfl) (W := 2) rfl (by decide) (by decide) (c' := 3) (s' := 11) rfl rfl (by decide) (by decide) ?_
  rintro _ T12_26 L12_26 X12_26 ⟨rs12_26, bs12_26, kb12_26, rfl, N12_26q, K12_26, E12_26, Sv12_26, Vb12_26, zr12_26, zb12_26⟩
  have N12_26 := Fr.app N12_14 N12_26q
  have fc12_27 := (fc12_15.keep K12_26 (fun q => ne_r0_b12_1 (List.mem_singleton.mp q)))
  have fc12_28 := (fc12_16.keep K12_26 (fun q => ne_r0_b12_1 (List.mem_singleton.mp q)))
  have fc12_29 := (fc12_17.keep K12_26 (fun q => ne_r0_b12_1 (List.mem_singleton.mp q)))
  have fc12_30 := (fc12_18.keep K12_26 (fun q => ne_r0_b12_1 (List.mem_singleton.mp q)))
  have fc12_31 := (fc12_19.keep K12_26 (fun q => ne_na_b12_1 (List.mem_singleton.mp q)))
  have fc12_32 := (fc12_20.keep K12_26 (fun q => ne_ta_b12_1 (List.mem_singleton.mp q)))
  have fc12_36 := ((fc12_13.trans K12_14 (allS (Or.inr sz_b12_1) all0)).trans K12_26 (allS (Or.inr sz_b12_1) all0))
  refine own_pc X12_26 hx hZ hown (rmST_1 l Z a0 hw [] r0 (0 : Int32) rs12_26 na ta kn kt ver a t0 bs12_26 kb12_26 (2 : Int32) [(.int (90 : Int32)), (.int (90 : Int32))] T12_26.heap n0 (Nat.le_trans fc12_25 K12_26.1) ⟨((((Epg.ext E12_1).keep K12_3).keep K12_14).keep K12_26), fc12_27, fc12_28, fc12_29, fc12_30, fc12_31, fc12_32, ((((Eng.ext E12_1).keep K12_3).keep K12_14).keep K12_26), ((((Etg.ext E12_1).keep K12_3).keep K12_14).keep K12_26), Ovg, ntg⟩ E12_26 Sv12_26 Vb12_26 (by decide) g_r0 g_na g_ta ((((Et0.ext E12_1).keep K12_3).keep K12_14).keep K12_26) ha (by decide)) (own_w hw 205 rfl) (own_w hw 207 rfl) (own_selP (y := mN5) (own_w hw 1 rfl) (own_w hw 207 rfl) (own_w hw 206 rfl) (by decide)) (own_w hw 206 rfl) (own_w hw 208 rfl) (own_w hw 2 rfl) (by decide) hml rfl ((((Epg.ext E12_1).keep K12_3).keep K12_14).keep K12_26) rfl (hb hby d12_28) rfl rfl (lenOf pd12_3 rfl) (W := 0) rfl (by decide) (by decide) (c' := 3) (s' := 11) rfl rfl (by decide) (by decide) ?_
  rintro _ T12_37 L12_37 X12_37 ⟨rfl, N12_37q, K12_37, R12_37⟩
  have N12_37 := Fr.app N12_26 N12_37q
  have fc12_46 := (fc12_36.trans K12_37 (allS (Or.inl (List.mem_of_getElem? (i := 0) rfl)) (allS (Or.inl (List.mem_of_getElem? (i := 1) rfl)) (allS (Or.inl (List.mem_of_getElem? (i := 2) rfl)) all0))))
  refine own_fw (fun _ => ox_iloadN X12_37.here hx (hb hby d12_31) rfl) ?_
  refine own_fw (fun _ => ox_ifNo X12_37.here hx (hb hby d12_32) rfl ((if0 _ _).trans (flt (Int32.lt_irrefl : ¬ ((0 : Int32) < (0 : Int32)))).1)) ?_
  refine own_fw (fun _ => ox_iconst X12_37.here hx (hb hby d12_35)) ?_
  refine own_fw (fun _ => ox_goto X12_37.here hx (pc0 := 36) (pc' := 40) rfl (hb hby d12_36) (by decide) (by decide)) ?_
  exact own_leaf X12_37 (v := some (.int (nar .boolean (1 : Int32)))) (own_ret Bd.returns) (BodyLoose.notSynchronized Bd) rfl (⟨rfl, N12_37, fc12_46, R12_37⟩) (by decide) (by decide) (fun fs hr => retN X12_37 hx (t := .boolean) Bd.returns (by simp) (hb hby d12_40) hr)
theorem rmEN_Z2 (l : Launch) (Z : State) (a0 : Array Value) (hw : ∀ d ∈ tables_1, d.before a0 Z = true) (ws : List Jvm.Cond) (r0 : Addr) (r1 : Addr) (na : Addr) (ta : Addr) (kn : ClassId) (kt : ClassId) (ver : Int32) (a : Int32) (b : Int32) (t0 : Addr) (t1 : Addr) (vb : Addr) (kb : ClassId) (cc : Int32) (fv : Value) (ra : Addr) (h0 : Heap) (n0 : Nat) (Z0 : n0 ≤ h0.size) (P_0 : OwnPG Z h0 r0 na ta kn kt (2 : Int32) ver a b (.ref t0) (.ref t1)) (Et : Exa Z h0 r1 "java/lang/String") (Svt : Fld Z h0 r1 "java/lang/String" "value" "[B" (.ref vb)) (Sct : Fld Z h0 r1 "java/lang/String" "coder" "B" (.int 0)) (Vt : Arv Z h0 vb kb .byte (4 : Int32) [(.int (48 : Int32)), (.int (32 : Int32)), (.int (90 : Int32)), (.int (90 : Int32))] (.int 0)) (g_r0 : n0 ≤ r0) (g_na : n0 ≤ na) (g_ta : n0 ≤ ta) (Et0 : Exa Z h0 t0 "java/lang/String") (Et1 : Exa Z h0 t1 "java/lang/String") (ha : ¬ a < (0 : Int32)) (hnb : ¬ b < (0 : Int32)) (OO : OwnOld Z n0 h0 cc fv ra) : OwnC l Z mN6 (Jvm.Cond.code mN6 prog_49_method_10_code 4 (some .boolean) :: ws) ({ frames := 7, cells := 3, slots := 11, locals := 108 } : Room) #[(.ref r0), (.ref r1)] h0 (Q12 Z r0 na ta (fun _ => True) h0 n0) := by
  refine own_body (plainFor_of_name pn12) (fun m => ef12 m r0 r1) ?_
  intro p e s m below meth c s₁ Bd hZ hml hown e0 hx hby hnm X0
  have N0 := Fr.nil n0
  obtain ⟨O_0, S_c, hcc, S_f, hfv, S_r⟩ := OO
  obtain ⟨Epg, Fng, Ftg, Fsg, Fvg, Vng, Vtg, Eng, Etg, Ovg, ntg⟩ := P_0
  obtain ⟨T12_1, h12_1, X12_1, e12_1, E12_1, A12_1, D12_1, -, st12_1⟩ := newO X0 hx hZ hown (own_w hw 87 rfl) (own_w hw 88 rfl) (own_w hw 89 rfl) e0 (g := (mkF m 0 #[.val (.ref r0), .val (.ref r1), .unset, .unset] [])) rfl (hb hby d12_0) (by decide) (by decide)
  obtain ⟨b12_1, g12_1⟩ : ∃ z, z = h0.size := ⟨_, rfl⟩
  rw [← g12_1] at A12_1 D12_1 st12_1
  have ne_r0_b12_1 : r0 ≠ b12_1 := Nat.ne_of_lt (Nat.lt_of_lt_of_le Epg.lt (Nat.le_of_eq g12_1.symm))
  have ne_na_b12_1 : na ≠ b12_1 := Nat.ne_of_lt (Nat.lt_of_lt_of_le Vng.lt (Nat.le_of_eq g12_1.symm))
  have ne_ta_b12_1 : ta ≠ b12_1 := Nat.ne_of_lt (Nat.lt_of_lt_of_le Vtg.lt (Nat.le_of_eq g12_1.symm))
  have ne_r1_b12_1 : r1 ≠ b12_1 := Nat.ne_of_lt (Nat.lt_of_lt_of_le Et.lt (Nat.le_of_eq g12_1.symm))
  have ne_vb_b12_1 : vb ≠ b12_1 := Nat.ne_of_lt (Nat.lt_of_lt_of_le Vt.lt (Nat.le_of_eq g12_1.symm))
  have g_b12_1 : n0 ≤ b12_1 := Nat.le_trans Z0 (Nat.le_of_eq g12_1.symm)
  have sz_b12_1 : h0.size ≤ b12_1 := Nat.le_trans (Keep.refl h0 [r0, na, ta]).1 (Nat.le_of_eq g12_1.symm)
  have F_keywordPosition_b12_1 : Fld Z h12_1 b12_1 "com/example/copperline/copperline/Lexer" "keywordPosition" "I" (.int (0 : Int32)) := D12_1 (Or.inl (own_w hw 98 rfl)) (ty := .int) (by decide)
  have F_text_b12_1 : Fld Z h12_1 b12_1 "com/example/copperline/copperline/Lexer" "text" "Ljava/lang/String;" .null := D12_1 (Or.inr (own_w hw 100 rfl)) (ty := (.object "java/lang/String")) (by decide)
  have F_position_b12_1 : Fld Z h12_1 b12_1 "com/example/copperline/copperline/Lexer" "position" "I" (.int (0 : Int32)) := D12_1 (Or.inl (own_w hw 102 rfl)) (ty := .int) (by decide)
  have F_reading_b12_1 : Fld Z h12_1 b12_1 "com/example/copperline/copperline/Lexer" "reading" "Lcom/example/copperline/copperline/Lexer$Reading;" .null := D12_1 (Or.inr (own_w hw 104 rfl)) (ty := (.object "com/example/copperline/copperline/Lexer$Reading")) (by decide)
  refine own_fw (A := T12_1.setTop (mkF m 3 #[.val (.ref r0), .val (.ref r1), .unset, .unset] [(.ref b12_1)])) st12_1 ?_
  refine own_fw (fun _ => ox_dup X12_1.here hx (hb hby d12_3) rfl rfl) ?_
  refine own_fw (fun _ => ox_aloadN X12_1.here hx (hb hby d12_4) rfl rfl) ?_
  refine own_fw (fun _ => ox_iconst X12_1.here hx (hb hby d12_5)) ?_
  obtain ⟨T12_2, X12_2, e12_2, st12_2⟩ := getS2 X12_1 hx hZ hown (host := "") (Or.inl (own_w hw 90 rfl)) Via.refl e12_1 (S_r.ext (O_0.ext E12_1).2) (g := (mkF m 6 #[.val (.ref r0), .val (.ref r1), .unset, .unset] [(.int (0 : Int32)), (.ref r1), (.ref b12_1), (.ref b12_1)])) rfl (hb hby d12_6)
  refine own_fw (A := T12_2.setTop (mkF m 9 #[.val (.ref r0), .val (.ref r1), .unset, .unset] [(.ref ra), (.int (0 : Int32)), (.ref r1), (.ref b12_1), (.ref b12_1)])) st12_2 ?_
  refine own_ic X12_2 hx hZ hown (rm13 l Z a0 hw [] b12_1 r1 ra h12_1 n0 (Nat.le_trans Z0 E12_1.1) A12_1 F_text_b12_1 F_position_b12_1 F_keywordPosition_b12_1 F_reading_b12_1 g_b12_1) (own_w hw 93 rfl) (own_w hw 94 rfl) (own_w hw 95 rfl) (own_w hw 89 rfl) rfl (by decide) hml rfl e12_2 (hb hby d12_9) rfl rfl (lenOf pd12_0 rfl) (W := 1) rfl (by decide) (by decide) (c' := 1) (s' := 5) rfl rfl (by decide) (by decide) ?_
  rintro _ T12_3 L12_3 X12_3 ⟨rfl, N12_3q, K12_3, Ex12_3, Fx12_3, Fp12_3⟩
  have N12_3 := Fr.app N0 N12_3q
  have fc12_4 := ((Fng.ext E12_1).keep K12_3 (fun q => ne_r0_b12_1 (List.mem_singleton.mp q)))
  have fc12_5 := ((Ftg.ext E12_1).keep K12_3 (fun q => ne_r0_b12_1 (List.mem_singleton.mp q)))
  have fc12_6 := ((Fsg.ext E12_1).keep K12_3 (fun q => ne_r0_b12_1 (List.mem_singleton.mp q)))
  have fc12_7 := ((Fvg.ext E12_1).keep K12_3 (fun q => ne_r0_b12_1 (List.mem_singleton.mp q)))
  have fc12_8 := ((Vng.ext E12_1).keep K12_3 (fun q => ne_na_b12_1 (List.mem_singleton.mp q)))
  have fc12_9 := ((Vtg.ext E12_1).keep K12_3 (fun q => ne_ta_b12_1 (List.mem_singleton.mp q)))
  have fc12_10 := ((Svt.ext E12_1).keep K12_3 (fun q => ne_r1_b12_1 (List.mem_singleton.mp q)))
  have fc12_11 := ((Sct.ext E12_1).keep K12_3 (fun q => ne_r1_b12_1 (List.mem_singleton.mp q)))
  have fc12_12 := ((Vt.ext E12_1).keep K12_3 (fun q => ne_vb_b12_1 (List.mem_singleton.mp q)))
  have fc12_13 := (((Keep.refl h0 [r0, na, ta]).ext E12_1).trans K12_3 (allS (Or.inr sz_b12_1) all0))
  refine own_fw (fun _ => ox_astoreN X12_3.here hx (hb hby d12_12) rfl rfl (l' := #[.val (.ref r0), .val (.ref r1), .val (.ref b12_1), .unset]) rfl) ?_
  refine own_fw (fun _ => ox_aloadN X12_3.here hx (hb hby d12_13) rfl rfl) ?_
  refine own_vc X12_3 hx hZ hown (rmNU_Z l Z a0 hw [] b12_1 r1 vb kb cc fv ra T12_3.heap n0 (Nat.le_trans (Nat.le_trans Z0 E12_1.1) K12_3.1) Ex12_3 Fx12_3 Fp12_3 ((Et.ext E12_1).keep K12_3) fc12_10 fc12_11 fc12_12 ne_r1_b12_1 ne_vb_b12_1 g_b12_1 ⟨((O_0.ext E12_1).keep K12_3 (allS g_b12_1 all0)), S_c, hcc, S_f, hfv, S_r⟩) (own_w hw 105 rfl) (own_w hw 106 rfl) (own_w hw 108 rfl) (own_w hw 107 rfl) (own_w hw 109 rfl) (own_w hw 89 rfl) (by decide) hml rfl Ex12_3 rfl (hb hby d12_14) rfl rfl (lenOf pd12_1 rfl) (W := 0) rfl (by decide) (by decide) (c' := 1) (s' := 5) rfl rfl (by decide) (by decide) ?_
  rintro _ T12_14 L12_14 X12_14 ⟨rfl, N12_14q, K12_14, Ex12_14, Fx12_14, Fp12_14⟩
  have N12_14 := Fr.app N12_3 N12_14q
  have fc12_15 := (fc12_4.keep K12_14 (fun q => ne_r0_b12_1 (List.mem_singleton.mp q)))
  have fc12_16 := (fc12_5.keep K12_14 (fun q => ne_r0_b12_1 (List.mem_singleton.mp q)))
  have fc12_17 := (fc12_6.keep K12_14 (fun q => ne_r0_b12_1 (List.mem_singleton.mp q)))
  have fc12_18 := (fc12_7.keep K12_14 (fun q => ne_r0_b12_1 (List.mem_singleton.mp q)))
  have fc12_19 := (fc12_8.keep K12_14 (fun q => ne_na_b12_1 (List.mem_singleton.mp q)))
  have fc12_20 := (fc12_9.keep K12_14 (fun q => ne_ta_b12_1 (List.mem_singleton.mp q)))
  have fc12_21 := (fc12_10.keep K12_14 (fun q => ne_r1_b12_1 (List.mem_singleton.mp q)))
  have fc12_22 := (fc12_11.keep K12_14 (fun q => ne_r1_b12_1 (List.mem_singleton.mp q)))
  have fc12_23 := (fc12_12.keep K12_14 (fun q => ne_vb_b12_1 (List.mem_singleton.mp q)))
  have fc12_24 := (((O_0.ext E12_1).keep K12_3 (allS g_b12_1 all0)).keep K12_14 (allS g_b12_1 all0))
  have fc12_25 := (Nat.le_trans (Nat.le_trans (Nat.le_trans Z0 E12_1.1) K12_3.1) K12_14.1)
  refine own_fw (fun _ => ox_istoreN X12_14.here hx (hb hby d12_17) rfl (l' := #[.val (.ref r0), .val (.ref r1), .val (.ref b12_1), .val (.int (0 : Int32))]) rfl) ?_
  refine own_fw (fun _ => ox_iloadN X12_14.here hx (hb hby d12_18) rfl) ?_
  refine own_fw (fun _ => ox_ifNo X12_14.here hx (hb hby d12_19) rfl ((if0 _ _).trans (flt (Int32.lt_irrefl : ¬ ((0 : Int32) < (0 : Int32)))).1)) ?_
  refine own_fw (fun _ => ox_aloadN X12_14.here hx (hb hby d12_22) rfl rfl) ?_
  refine own_fw (fun _ => ox_iloadN X12_14.here hx (hb hby d12_23) rfl) ?_
  refine own_fw (fun _ => ox_aloadN X12_14.here hx (hb hby d12_24) rfl rfl) ?_
  refine own_vc X12_14 hx hZ hown (rmRE_Z l Z a0 hw [] b12_1 r1 vb kb cc fv ra T12_14.heap n0 fc12_25 Ex12_14 Fx12_14 Fp12_14 (((Et.ext E12_1).keep K12_3).keep K12_14) fc12_21 fc12_22 fc12_23 ne_r1_b12_1 ne_vb_b12_1 g_b12_1 ⟨fc12_24, S_c, hcc, S_f, hfv, S_r⟩) (own_w hw 158 rfl) (own_w hw 159 rfl) (own_w hw 161 rfl) (own_w hw 160 rfl) (own_w hw 162 rfl) (own_w hw 89 rfl) (by decide) hml rfl Ex12_14 rfl (hb hby d12_25) rfl rfl (lenOf pd12_2 rfl) (W := 2) rfl (by decide) (by decide) (c' := 3) (s' := 11) rfl rfl (by decide) (by decide) ?_
  rintro _ T12_26 L12_26 X12_26 ⟨rs12_26, bs12_26, kb12_26, rfl, N12_26q, K12_26, E12_26, Sv12_26, Vb12_26, zr12_26, zb12_26⟩
  have N12_26 := Fr.app N12_14 N12_26q
  have fc12_27 := (fc12_15.keep K12_26 (fun q => ne_r0_b12_1 (List.mem_singleton.mp q)))
  have fc12_28 := (fc12_16.keep K12_26 (fun q => ne_r0_b12_1 (List.mem_singleton.mp q)))
  have fc12_29 := (fc12_17.keep K12_26 (fun q => ne_r0_b12_1 (List.mem_singleton.mp q)))
  have fc12_30 := (fc12_18.keep K12_26 (fun q => ne_r0_b12_1 (List.mem_singleton.mp q)))
  have fc12_31 := (fc12_19.keep K12_26 (fun q => ne_na_b12_1 (List.mem_singleton.mp q)))
  have fc12_32 := (fc12_20.keep K12_26 (fun q => ne_ta_b12_1 (List.mem_singleton.mp q)))
  have fc12_36 := ((fc12_13.trans K12_14 (allS (Or.inr sz_b12_1) all0)).trans K12_26 (allS (Or.inr sz_b12_1) all0))
  refine own_pc X12_26 hx hZ hown (rmST_2 l Z a0 hw [] r0 (0 : Int32) rs12_26 na ta kn kt ver a b t0 t1 bs12_26 kb12_26 (2 : Int32) [(.int (90 : Int32)), (.int (90 : Int32))] T12_26.heap n0 (Nat.le_trans fc12_25 K12_26.1) ⟨((((Epg.ext E12_1).keep K12_3).keep K12_14).keep K12_26), fc12_27, fc12_28, fc12_29, fc12_30, fc12_31, fc12_32, ((((Eng.ext E12_1).keep K12_3).keep K12_14).keep K12_26), ((((Etg.ext E12_1).keep K12_3).keep K12_14).keep K12_26), Ovg, ntg⟩ E12_26 Sv12_26 Vb12_26 (by decide) g_r0 g_na g_ta ((((Et0.ext E12_1).keep K12_3).keep K12_14).keep K12_26) ((((Et1.ext E12_1).keep K12_3).keep K12_14).keep K12_26) ha hnb) (own_w hw 205 rfl) (own_w hw 207 rfl) (own_selP (y := mN5) (own_w hw 1 rfl) (own_w hw 207 rfl) (own_w hw 206 rfl) (by decide)) (own_w hw 206 rfl) (own_w hw 208 rfl) (own_w hw 2 rfl) (by decide) hml rfl ((((Epg.ext E12_1).keep K12_3).keep K12_14).keep K12_26) rfl (hb hby d12_28) rfl rfl (lenOf pd12_3 rfl) (W := 0) rfl (by decide) (by decide) (c' := 3) (s' := 11) rfl rfl (by decide) (by decide) ?_
  rintro _ T12_37 L12_37 X12_37 ⟨rfl, N12_37q, K12_37, R12_37⟩
  have N12_37 := Fr.app N12_26 N12_37q
  have fc12_47 := (fc12_36.trans K12_37 (allS (Or.inl (List.mem_of_getElem? (i := 0) rfl)) (allS (Or.inl (List.mem_of_getElem? (i := 1) rfl)) (allS (Or.inl (List.mem_of_getElem? (i := 2) rfl)) all0))))
  refine own_fw (fun _ => ox_iloadN X12_37.here hx (hb hby d12_31) rfl) ?_
  refine own_fw (fun _ => ox_ifNo X12_37.here hx (hb hby d12_32) rfl ((if0 _ _).trans (flt (Int32.lt_irrefl : ¬ ((0 : Int32) < (0 : Int32)))).1)) ?_
  refine own_fw (fun _ => ox_iconst X12_37.here hx (hb hby d12_35)) ?_
  refine own_fw (fun _ => ox_goto X12_37.here hx (pc0 := 36) (pc' := 40) rfl (hb hby d12_36) (by decide) (by decide)) ?_
  exact own_leaf X12_37 (v := some (.int (nar .boolean (1 : Int32)))) (own_ret Bd.returns) (BodyLoose.notSynchronized Bd) rfl (⟨rfl, N12_37, fc12_47, R12_37⟩) (by decide) (by decide) (fun fs hr => retN X12_37 hx (t := .boolean) Bd.returns (by simp) (hb hby d12_40) hr)
theorem d1_0 : decode cB19 0 = .ok (.aload_n 0, 1) := by decide +kernel
theorem d1_1 : decode cB19 1 = .ok (.invokespecial 1, 3) := by decide +kernel
theorem d1_4 : decode cB19 4 = .ok (.aload_n 0, 1) := by decide +kernel
theorem d1_5 : decode cB19 5 = .ok (.bipush 16, 2) := by decide +kernel
theorem d1_7 : decode cB19 7 = .ok (.newarray .int, 2) := by decide +kernel
theorem d1_9 : decode cB19 9 = .ok (.putfield 7, 3) := by decide +kernel
theorem d1_12 : decode cB19 12 = .ok (.aload_n 0, 1) := by decide +kernel
theorem d1_13 : decode cB19 13 = .ok (.bipush 16, 2) := by decide +kernel
theorem d1_15 : decode cB19 15 = .ok (.anewarray 13, 3) := by decide +kernel
theorem d1_18 : decode cB19 18 = .ok (.putfield 15, 3) := by decide +kernel
theorem d1_21 : decode cB19 21 = .ok (.return_, 1) := by decide +kernel
theorem pn1 : plainName "com/example/copperline/copperline/Program" = true := by first | (simp [plainName, overriddenIn]; done) | decide +kernel
theorem ef1 (m : MethodId) (r0 : Addr) : entryFrame m #[(.ref r0)] 1 = mkF m 0 #[.val (.ref r0)] [] := by first | (simp [entryFrame, mkF, argsToLocals, Value.category]; done) | rfl
def Q1 (Z : State) (r0 : Addr) (h0 : Heap) (n0 : Nat) (w : Option Value) (h : Heap) (L : List Loc) : Prop := ∃ na ta kn kt, w = none ∧ Fr n0 L ∧ Keep h0 h [r0] ∧ OwnPG Z h r0 na ta kn kt 0 0 0 0 .null .null ∧ h0.size ≤ na ∧ h0.size ≤ ta
theorem rm1 (l : Launch) (Z : State) (a0 : Array Value) (hw : ∀ d ∈ tables_1, d.before a0 Z = true) (ws : List Jvm.Cond) (r0 : Addr) (h0 : Heap) (n0 : Nat) (Z0 : n0 ≤ h0.size) (Ep : Exa Z h0 r0 "com/example/copperline/copperline/Program") (F1 : Fld Z h0 r0 "com/example/copperline/copperline/Program" "numbers" "[I" .null) (F2 : Fld Z h0 r0 "com/example/copperline/copperline/Program" "texts" "[Ljava/lang/String;" .null) (F3 : Fld Z h0 r0 "com/example/copperline/copperline/Program" "size" "I" (.int 0)) (F4 : Fld Z h0 r0 "com/example/copperline/copperline/Program" "version" "I" (.int 0)) (g_r0 : n0 ≤ r0) : OwnC l Z (⟨"com/example/copperline/copperline/Program", "<init>", "()V"⟩ : MethodName) (Jvm.Cond.code (⟨"com/example/copperline/copperline/Program", "<init>", "()V"⟩ : MethodName) prog_49_method_1_code 1 none :: ws) ({ frames := 1, cells := 2, slots := 32, locals := 12 } : Room) #[(.ref r0)] h0 (Q1 Z r0 h0 n0) := by
  refine own_body (plainFor_of_name pn1) (fun m => ef1 m r0) ?_
  intro p e s m below meth c s₁ Bd hZ hml hown e0 hx hby hnm X0
  have N0 := Fr.nil n0
  refine own_fw (fun _ => ox_aloadN X0.here hx (hb hby d1_0) rfl rfl) ?_
  obtain ⟨T1_1, X1_1, e1_1, st1_1⟩ := initO X0 hx hZ hown (own_w hw 6 rfl) (own_w hw 7 rfl) (own_w hw 8 rfl) e0 (g := (mkF m 1 #[.val (.ref r0)] [(.ref r0)])) rfl (by rw [hml]; rfl) rfl (hb hby d1_1) (by decide) (W := 0) (own_mr rfl) (by decide)
  refine own_fw (A := T1_1.setTop (mkF m 4 #[.val (.ref r0)] [])) st1_1 ?_
  refine own_fw (fun _ => ox_aloadN X1_1.here hx (hb hby d1_4) rfl rfl) ?_
  refine own_fw (fun _ => ox_bipush X1_1.here hx (hb hby d1_5)) ?_
  obtain ⟨T1_2, h1_2, k1_2, X1_2, e1_2, E1_2, A1_2, Ex1_2, st1_2⟩ := newPE X1_1 hx hZ (own_w hw 9 rfl) e1_1 (g := (mkF m 7 #[.val (.ref r0)] [(.int (16 : Int32)), (.ref r0)])) rfl (hb hby d1_7) rfl (by decide) (cap := 16) (by decide) (by decide) (by decide) (by decide) (ad := "[I") (by decide)
  obtain ⟨b1_2, g1_2⟩ : ∃ z, z = h0.size := ⟨_, rfl⟩
  rw [← g1_2] at A1_2 Ex1_2 st1_2
  have ne_r0_b1_2 : r0 ≠ b1_2 := Nat.ne_of_lt (Nat.lt_of_lt_of_le Ep.lt (Nat.le_of_eq g1_2.symm))
  have sz_b1_2 : h0.size ≤ b1_2 := Nat.le_trans (Keep.refl h0 [r0]).1 (Nat.le_of_eq g1_2.symm)
  have V_b1_2 : Arv Z h1_2 b1_2 k1_2 .int (16 : Int32) [(.int (0 : Int32)), (.int (0 : Int32)), (.int (0 : Int32)), (.int (0 : Int32)), (.int (0 : Int32)), (.int (0 : Int32)), (.int (0 : Int32)), (.int (0 : Int32)), (.int (0 : Int32)), (.int (0 : Int32)), (.int (0 : Int32)), (.int (0 : Int32)), (.int (0 : Int32)), (.int (0 : Int32)), (.int (0 : Int32)), (.int (0 : Int32))] (.int (0 : Int32)) := (Arv.new A1_2 (by decide)).pad (pad_rep [] (.int (0 : Int32)) 16)
  refine own_fw (A := T1_2.setTop (mkF m 9 #[.val (.ref r0)] [(.ref b1_2), (.ref r0)])) st1_2 ?_
  obtain ⟨T1_3, h1_3, X1_3, e1_3, W1_3, st1_3⟩ := putF X1_2 hx hZ hown (host := "") (Or.inl (own_w hw 10 rfl)) Via.refl e1_2 (F1.ext E1_2) (Ep.ext E1_2) (Or.inl (own_w hw 11 rfl)) (own_w hw 1 rfl) (ty := (.array .int)) (by decide) rfl rfl (g := (mkF m 9 #[.val (.ref r0)] [(.ref b1_2), (.ref r0)])) rfl rfl (hb hby d1_9)
  have Fw1_3 := (F1.ext E1_2).same W1_3
  have N1_3 := Fr.snoc X1_3 N0 g_r0
  refine own_fw (A := T1_3.setTop (mkF m 12 #[.val (.ref r0)] [])) st1_3 ?_
  refine own_fw (fun _ => ox_aloadN X1_3.here hx (hb hby d1_12) rfl rfl) ?_
  refine own_fw (fun _ => ox_bipush X1_3.here hx (hb hby d1_13)) ?_
  obtain ⟨T1_4, h1_4, k1_4, X1_4, e1_4, E1_4, A1_4, Ex1_4, O1_4, st1_4⟩ := newRE X1_3 hx hZ hown (own_w hw 12 rfl) (own_w hw 13 rfl) e1_3 (g := (mkF m 15 #[.val (.ref r0)] [(.int (16 : Int32)), (.ref r0)])) rfl (hb hby d1_15) rfl (by decide) (cap := 16) (by decide) (by decide) (by decide) (by decide) (ad := "[Ljava/lang/String;") (by decide)
  obtain ⟨b1_4, g1_4⟩ : ∃ z, z = h1_3.size := ⟨_, rfl⟩
  rw [← g1_4] at A1_4 Ex1_4 st1_4
  have ne_r0_b1_4 : r0 ≠ b1_4 := Nat.ne_of_lt (Nat.lt_of_lt_of_le ((Ep.ext E1_2).wr W1_3).lt (Nat.le_of_eq g1_4.symm))
  have ne_b1_2_b1_4 : b1_2 ≠ b1_4 := Nat.ne_of_lt (Nat.lt_of_lt_of_le (V_b1_2.other W1_3 (Ne.symm ne_r0_b1_2)).lt (Nat.le_of_eq g1_4.symm))
  have sz_b1_4 : h0.size ≤ b1_4 := Nat.le_trans (((Keep.refl h0 [r0]).ext E1_2).wr W1_3 (Or.inl (List.mem_of_getElem? (i := 0) rfl))).1 (Nat.le_of_eq g1_4.symm)
  have V_b1_4 : Arv Z h1_4 b1_4 k1_4 (.object "java/lang/String") (16 : Int32) [.null, .null, .null, .null, .null, .null, .null, .null, .null, .null, .null, .null, .null, .null, .null, .null] .null := (Arv.new A1_4 (by decide)).pad (pad_rep [] .null 16)
  refine own_fw (A := T1_4.setTop (mkF m 18 #[.val (.ref r0)] [(.ref b1_4), (.ref r0)])) st1_4 ?_
  obtain ⟨T1_5, h1_5, X1_5, e1_5, W1_5, st1_5⟩ := putF X1_4 hx hZ hown (host := "") (Or.inl (own_w hw 14 rfl)) Via.refl e1_4 (((F2.ext E1_2).other W1_3 (Or.inr (slot_ne (Or.inl (own_w hw 15 rfl)) (Or.inl (own_w hw 11 rfl)) (by decide) (t := (.array (.object "java/lang/String"))) (t' := (.array .int)) (by decide) (by decide)))).ext E1_4) (((Ep.ext E1_2).wr W1_3).ext E1_4) (Or.inl (own_w hw 15 rfl)) (own_w hw 1 rfl) (ty := (.array (.object "java/lang/String"))) (by decide) rfl rfl (g := (mkF m 18 #[.val (.ref r0)] [(.ref b1_4), (.ref r0)])) rfl rfl (hb hby d1_18)
  have Fw1_5 := (((F2.ext E1_2).other W1_3 (Or.inr (slot_ne (Or.inl (own_w hw 15 rfl)) (Or.inl (own_w hw 11 rfl)) (by decide) (t := (.array (.object "java/lang/String"))) (t' := (.array .int)) (by decide) (by decide)))).ext E1_4).same W1_5
  have N1_5 := Fr.snoc X1_5 N1_3 g_r0
  refine own_fw (A := T1_5.setTop (mkF m 21 #[.val (.ref r0)] [])) st1_5 ?_
  exact own_leaf X1_5 (v := none) (fun _ => rfl) (BodyLoose.notSynchronized Bd) e1_5 (⟨b1_2, b1_4, k1_2, k1_4, rfl, N1_5, (((((Keep.refl h0 [r0]).ext E1_2).wr W1_3 (Or.inl (List.mem_of_getElem? (i := 0) rfl))).ext E1_4).wr W1_5 (Or.inl (List.mem_of_getElem? (i := 0) rfl))), ⟨((((Ep.ext E1_2).wr W1_3).ext E1_4).wr W1_5), ((Fw1_3.ext E1_4).other W1_5 (Or.inr (slot_ne (Or.inl (own_w hw 11 rfl)) (Or.inl (own_w hw 15 rfl)) (by decide) (t := (.array .int)) (t' := (.array (.object "java/lang/String"))) (by decide) (by decide)))), Fw1_5, ((((F3.ext E1_2).other W1_3 (Or.inr (slot_ne (Or.inl (own_w hw 57 rfl)) (Or.inl (own_w hw 11 rfl)) (by decide) (t := .int) (t' := (.array .int)) (by decide) (by decide)))).ext E1_4).other W1_5 (Or.inr (slot_ne (Or.inl (own_w hw 57 rfl)) (Or.inl (own_w hw 15 rfl)) (by decide) (t := .int) (t' := (.array (.object "java/lang/String"))) (by decide) (by decide)))), ((((F4.ext E1_2).other W1_3 (Or.inr (slot_ne (Or.inl (own_w hw 50 rfl)) (Or.inl (own_w hw 11 rfl)) (by decide) (t := .int) (t' := (.array .int)) (by decide) (by decide)))).ext E1_4).other W1_5 (Or.inr (slot_ne (Or.inl (own_w hw 50 rfl)) (Or.inl (own_w hw 15 rfl)) (by decide) (t := .int) (t' := (.array (.object "java/lang/String"))) (by decide) (by decide)))), (((V_b1_2.other W1_3 (Ne.symm ne_r0_b1_2)).ext E1_4).other W1_5 (Ne.symm ne_r0_b1_2)), (V_b1_4.other W1_5 (Ne.symm ne_r0_b1_4)), (((Ex1_2.wr W1_3).ext E1_4).wr W1_5), (Ex1_4.wr W1_5), O1_4, ne_b1_2_b1_4⟩, sz_b1_2, sz_b1_4⟩) (by decide) (by decide) (fun fs hr => X1_5.returnOut hx Bd.returns (hb hby d1_21) hr)
theorem d8_0 : decode prog_49_method_7_code 0 = .ok (.aload_n 0, 1) := by decide +kernel
theorem d8_1 : decode prog_49_method_7_code 1 = .ok (.getfield 66, 3) := by decide +kernel
theorem d8_4 : decode prog_49_method_7_code 4 = .ok (.ireturn, 1) := by decide +kernel
theorem pn8 : plainName "com/example/copperline/copperline/Program" = true := by first | (simp [plainName, overriddenIn]; done) | decide +kernel
theorem ef8 (m : MethodId) (r0 : Addr) : entryFrame m #[(.ref r0)] 1 = mkF m 0 #[.val (.ref r0)] [] := by first | (simp [entryFrame, mkF, argsToLocals, Value.category]; done) | rfl
def Q8 (Z : State) (z : Int32) (h0 : Heap) (n0 : Nat) (w : Option Value) (h : Heap) (L : List Loc) : Prop := w = some (.int z) ∧ Fr n0 L ∧ h = h0
theorem rm8 (l : Launch) (Z : State) (a0 : Array Value) (hw : ∀ d ∈ tables_1, d.before a0 Z = true) (ws : List Jvm.Cond) (r0 : Addr) (z : Int32) (h0 : Heap) (n0 : Nat) (Z0 : n0 ≤ h0.size) (F_0 : Fld Z h0 r0 "com/example/copperline/copperline/Program" "version" "I" (.int z)) : OwnC l Z (⟨"com/example/copperline/copperline/Program", "version", "()I"⟩ : MethodName) (Jvm.Cond.code (⟨"com/example/copperline/copperline/Program", "version", "()I"⟩ : MethodName) prog_49_method_7_code 1 (some .int) :: ws) ({ frames := 0, cells := 0, slots := 0, locals := 0 } : Room) #[(.ref r0)] h0 (Q8 Z z h0 n0) := by
  refine own_body (plainFor_of_name pn8) (fun m => ef8 m r0) ?_
  intro p e s m below meth c s₁ Bd hZ hml hown e0 hx hby hnm X0
  have N0 := Fr.nil n0
  refine own_fw (fun _ => ox_aloadN X0.here hx (hb hby d8_0) rfl rfl) ?_
  refine own_gf X0 hx hZ hown (own_w hw 49 rfl) Via.refl e0 F_0 (hb hby d8_1) rfl fun T8_1 X8_1 e8_1 => ?_
  exact own_leaf X8_1 (v := some (.int z)) (own_ret Bd.returns) (BodyLoose.notSynchronized Bd) e8_1 (⟨rfl, N0, rfl⟩) (by decide) (by decide) (fun fs hr => retI X8_1 hx Bd.returns (hb hby d8_4) hr)
theorem d9_0 : decode prog_49_method_4_code 0 = .ok (.aload_n 0, 1) := by decide +kernel
theorem d9_1 : decode prog_49_method_4_code 1 = .ok (.getfield 62, 3) := by decide +kernel
theorem d9_4 : decode prog_49_method_4_code 4 = .ok (.ireturn, 1) := by decide +kernel
theorem pn9 : plainName "com/example/copperline/copperline/Program" = true := by first | (simp [plainName, overriddenIn]; done) | decide +kernel
theorem ef9 (m : MethodId) (r0 : Addr) : entryFrame m #[(.ref r0)] 1 = mkF m 0 #[.val (.ref r0)] [] := by first | (simp [entryFrame, mkF, argsToLocals, Value.category]; done) | rfl
def Q9 (Z : State) (z : Int32) (h0 : Heap) (n0 : Nat) (w : Option Value) (h : Heap) (L : List Loc) : Prop := w = some (.int z) ∧ Fr n0 L ∧ h = h0
theorem rm9 (l : Launch) (Z : State) (a0 : Array Value) (hw : ∀ d ∈ tables_1, d.before a0 Z = true) (ws : List Jvm.Cond) (r0 : Addr) (z : Int32) (h0 : Heap) (n0 : Nat) (Z0 : n0 ≤ h0.size) (F_0 : Fld Z h0 r0 "com/example/copperline/copperline/Program" "size" "I" (.int z)) : OwnC l Z (⟨"com/example/copperline/copperline/Program", "size", "()I"⟩ : MethodName) (Jvm.Cond.code (⟨"com/example/copperline/copperline/Program", "size", "()I"⟩ : MethodName) prog_49_method_4_code 1 (some .int) :: ws) ({ frames := 0, cells := 0, slots := 0, locals := 0 } : Room) #[(.ref r0)] h0 (Q9 Z z h0 n0) := by
  refine own_body (plainFor_of_name pn9) (fun m => ef9 m r0) ?_
  intro p e s m below meth c s₁ Bd hZ hml hown e0 hx hby hnm X0
  have N0 := Fr.nil n0
  refine own_fw (fun _ => ox_aloadN X0.here hx (hb hby d9_0) rfl rfl) ?_
  refine own_gf X0 hx hZ hown (own_w hw 56 rfl) Via.refl e0 F_0 (hb hby d9_1) rfl fun T9_1 X9_1 e9_1 => ?_
  exact own_leaf X9_1 (v := some (.int z)) (own_ret Bd.returns) (BodyLoose.notSynchronized Bd) e9_1 (⟨rfl, N0, rfl⟩) (by decide) (by decide) (fun fs hr => retI X9_1 hx Bd.returns (hb hby d9_4) hr)
theorem d42_0 : decode prog_49_method_5_code 0 = .ok (.aload_n 0, 1) := by decide +kernel
theorem d42_1 : decode prog_49_method_5_code 1 = .ok (.getfield 7, 3) := by decide +kernel
theorem d42_4 : decode prog_49_method_5_code 4 = .ok (.iload_n 1, 1) := by decide +kernel
theorem d42_5 : decode prog_49_method_5_code 5 = .ok (.iaload, 1) := by decide +kernel
theorem d42_6 : decode prog_49_method_5_code 6 = .ok (.ireturn, 1) := by decide +kernel
theorem pn42 : plainName "com/example/copperline/copperline/Program" = true := by first | (simp [plainName, overriddenIn]; done) | decide +kernel
theorem ef42 (m : MethodId) (r0 : Addr) (p1 : Int32) : entryFrame m #[(.ref r0), (.int p1)] 2 = mkF m 0 #[.val (.ref r0), .val (.int p1)] [] := by first | (simp [entryFrame, mkF, argsToLocals, Value.category]; done) | rfl
def Q42 (Z : State) (z : Int32) (h0 : Heap) (n0 : Nat) (w : Option Value) (h : Heap) (L : List Loc) : Prop := w = some (.int z) ∧ Fr n0 L ∧ h = h0
theorem d43_0 : decode prog_49_method_6_code 0 = .ok (.aload_n 0, 1) := by decide +kernel
theorem d43_1 : decode prog_49_method_6_code 1 = .ok (.getfield 15, 3) := by decide +kernel
theorem d43_4 : decode prog_49_method_6_code 4 = .ok (.iload_n 1, 1) := by decide +kernel
theorem d43_5 : decode prog_49_method_6_code 5 = .ok (.aaload, 1) := by decide +kernel
theorem d43_6 : decode prog_49_method_6_code 6 = .ok (.areturn, 1) := by decide +kernel
theorem pn43 : plainName "com/example/copperline/copperline/Program" = true := by first | (simp [plainName, overriddenIn]; done) | decide +kernel
theorem ef43 (m : MethodId) (r0 : Addr) (p1 : Int32) : entryFrame m #[(.ref r0), (.int p1)] 2 = mkF m 0 #[.val (.ref r0), .val (.int p1)] [] := by first | (simp [entryFrame, mkF, argsToLocals, Value.category]; done) | rfl
def Q43 (Z : State) (z : Addr) (h0 : Heap) (n0 : Nat) (w : Option Value) (h : Heap) (L : List Loc) : Prop := w = some (.ref z) ∧ Fr n0 L ∧ h = h0
theorem rmNO_0 (l : Launch) (Z : State) (a0 : Array Value) (hw : ∀ d ∈ tables_1, d.before a0 Z = true) (ws : List Jvm.Cond) (r0 : Addr) (na : Addr) (kn : ClassId) (a : Int32) (b : Int32) (h0 : Heap) (n0 : Nat) (Z0 : n0 ≤ h0.size) (Fn : Fld Z h0 r0 "com/example/copperline/copperline/Program" "numbers" "[I" (.ref na)) (Vn : Arv Z h0 na kn .int (16 : Int32) [(.int a), (.int b), (.int (0 : Int32)), (.int (0 : Int32)), (.int (0 : Int32)), (.int (0 : Int32)), (.int (0 : Int32)), (.int (0 : Int32)), (.int (0 : Int32)), (.int (0 : Int32)), (.int (0 : Int32)), (.int (0 : Int32)), (.int (0 : Int32)), (.int (0 : Int32)), (.int (0 : Int32)), (.int (0 : Int32))] (.int 0)) : OwnC l Z mN27 (Jvm.Cond.code mN27 prog_49_method_5_code 2 (some .int) :: ws) ({ frames := 0, cells := 0, slots := 0, locals := 0 } : Room) #[(.ref r0), (.int (0 : Int32))] h0 (Q42 Z a h0 n0) := by
  refine own_body (plainFor_of_name pn42) (fun m => ef42 m r0 (0 : Int32)) ?_
  intro p e s m below meth c s₁ Bd hZ hml hown e0 hx hby hnm X0
  have N0 := Fr.nil n0
  refine own_fw (fun _ => ox_aloadN X0.here hx (hb hby d42_0) rfl rfl) ?_
  refine own_gf X0 hx hZ hown (own_w hw 10 rfl) Via.refl e0 Fn (hb hby d42_1) rfl fun T42_1 X42_1 e42_1 => ?_
  refine own_fw (fun _ => ox_iloadN X42_1.here hx (hb hby d42_4) rfl) ?_
  obtain ⟨cl42_2, Ar42_2, q42_2, S42_2, Ng42_2, Hs42_2, G42_2⟩ := id Vn
  have hin42_2 : ¬ ((0 : Int32) < 0 ∨ cl42_2.slots.size ≤ ((0 : Int32)).toNatClampNeg) := inb_of S42_2 ⟨by decide, by decide⟩
  refine own_fw (A := T42_1.setTop (mkF m 6 #[.val (.ref r0), .val (.int (0 : Int32))] [(.int a)])) (X42_1.iaload hx (j := (0 : Int32)) (v := (.int a)) (by rw [e42_1]; exact Ar42_2.1) (State.isArrayOf_alike hZ.alike Ar42_2.2.1) Ar42_2.2.2 hin42_2 (Has.at Hs42_2 hin42_2 rfl) (g := (mkF m 5 #[.val (.ref r0), .val (.int (0 : Int32))] [(.int (0 : Int32)), (.ref na)])) rfl rfl (hb hby d42_5)) ?_
  exact own_leaf X42_1 (v := some (.int a)) (own_ret Bd.returns) (BodyLoose.notSynchronized Bd) e42_1 (⟨rfl, N0, rfl⟩) (by decide) (by decide) (fun fs hr => retI X42_1 hx Bd.returns (hb hby d42_6) hr)
theorem rmTE_0 (l : Launch) (Z : State) (a0 : Array Value) (hw : ∀ d ∈ tables_1, d.before a0 Z = true) (ws : List Jvm.Cond) (r0 : Addr) (ta : Addr) (kt : ClassId) (t : Addr) (v1 : Value) (h0 : Heap) (n0 : Nat) (Z0 : n0 ≤ h0.size) (Ft : Fld Z h0 r0 "com/example/copperline/copperline/Program" "texts" "[Ljava/lang/String;" (.ref ta)) (Vt : Arv Z h0 ta kt (.object "java/lang/String") (16 : Int32) [(.ref t), v1, .null, .null, .null, .null, .null, .null, .null, .null, .null, .null, .null, .null, .null, .null] .null) : OwnC l Z mN28 (Jvm.Cond.code mN28 prog_49_method_6_code 2 (some (.object "java/lang/String")) :: ws) ({ frames := 0, cells := 0, slots := 0, locals := 0 } : Room) #[(.ref r0), (.int (0 : Int32))] h0 (Q43 Z t h0 n0) := by
  refine own_body (plainFor_of_name pn43) (fun m => ef43 m r0 (0 : Int32)) ?_
  intro p e s m below meth c s₁ Bd hZ hml hown e0 hx hby hnm X0
  have N0 := Fr.nil n0
  refine own_fw (fun _ => ox_aloadN X0.here hx (hb hby d43_0) rfl rfl) ?_
  refine own_gf X0 hx hZ hown (own_w hw 14 rfl) Via.refl e0 Ft (hb hby d43_1) rfl fun T43_1 X43_1 e43_1 => ?_
  refine own_fw (fun _ => ox_iloadN X43_1.here hx (hb hby d43_4) rfl) ?_
  obtain ⟨cl43_2, Ar43_2, q43_2, S43_2, Ng43_2, Hs43_2, G43_2⟩ := id Vt
  have hin43_2 : ¬ ((0 : Int32) < 0 ∨ cl43_2.slots.size ≤ ((0 : Int32)).toNatClampNeg) := inb_of S43_2 ⟨by decide, by decide⟩
  refine own_fw (A := T43_1.setTop (mkF m 6 #[.val (.ref r0), .val (.int (0 : Int32))] [(.ref t)])) (X43_1.aaload hx (j := (0 : Int32)) (v := (.ref t)) (by rw [e43_1]; exact Ar43_2.1) (State.isArrayOf_alike hZ.alike Ar43_2.2.1) rfl Ar43_2.2.2 hin43_2 (Has.at Hs43_2 hin43_2 rfl) (g := (mkF m 5 #[.val (.ref r0), .val (.int (0 : Int32))] [(.int (0 : Int32)), (.ref ta)])) rfl rfl (hb hby d43_5)) ?_
  exact own_leaf X43_1 (v := some (.ref t)) (own_ret Bd.returns) (BodyLoose.notSynchronized Bd) e43_1 (⟨rfl, N0, rfl⟩) (by decide) (by decide) (fun fs hr => retA (ty := (.object "java/lang/String")) X43_1 hx rfl rfl Bd.returns (hb hby d43_6) hr)
theorem rmNO_1 (l : Launch) (Z : State) (a0 : Array Value) (hw : ∀ d ∈ tables_1, d.before a0 Z = true) (ws : List Jvm.Cond) (r0 : Addr) (na : Addr) (kn : ClassId) (a : Int32) (b : Int32) (h0 : Heap) (n0 : Nat) (Z0 : n0 ≤ h0.size) (Fn : Fld Z h0 r0 "com/example/copperline/copperline/Program" "numbers" "[I" (.ref na)) (Vn : Arv Z h0 na kn .int (16 : Int32) [(.int a), (.int b), (.int (0 : Int32)), (.int (0 : Int32)), (.int (0 : Int32)), (.int (0 : Int32)), (.int (0 : Int32)), (.int (0 : Int32)), (.int (0 : Int32)), (.int (0 : Int32)), (.int (0 : Int32)), (.int (0 : Int32)), (.int (0 : Int32)), (.int (0 : Int32)), (.int (0 : Int32)), (.int (0 : Int32))] (.int 0)) : OwnC l Z mN27 (Jvm.Cond.code mN27 prog_49_method_5_code 2 (some .int) :: ws) ({ frames := 0, cells := 0, slots := 0, locals := 0 } : Room) #[(.ref r0), (.int (1 : Int32))] h0 (Q42 Z b h0 n0) := by
  refine own_body (plainFor_of_name pn42) (fun m => ef42 m r0 (1 : Int32)) ?_
  intro p e s m below meth c s₁ Bd hZ hml hown e0 hx hby hnm X0
  have N0 := Fr.nil n0
  refine own_fw (fun _ => ox_aloadN X0.here hx (hb hby d42_0) rfl rfl) ?_
  refine own_gf X0 hx hZ hown (own_w hw 10 rfl) Via.refl e0 Fn (hb hby d42_1) rfl fun T42_1 X42_1 e42_1 => ?_
  refine own_fw (fun _ => ox_iloadN X42_1.here hx (hb hby d42_4) rfl) ?_
  obtain ⟨cl42_2, Ar42_2, q42_2, S42_2, Ng42_2, Hs42_2, G42_2⟩ := id Vn
  have hin42_2 : ¬ ((1 : Int32) < 0 ∨ cl42_2.slots.size ≤ ((1 : Int32)).toNatClampNeg) := inb_of S42_2 ⟨by decide, by decide⟩
  refine own_fw (A := T42_1.setTop (mkF m 6 #[.val (.ref r0), .val (.int (1 : Int32))] [(.int b)])) (X42_1.iaload hx (j := (1 : Int32)) (v := (.int b)) (by rw [e42_1]; exact Ar42_2.1) (State.isArrayOf_alike hZ.alike Ar42_2.2.1) Ar42_2.2.2 hin42_2 (Has.at Hs42_2 hin42_2 rfl) (g := (mkF m 5 #[.val (.ref r0), .val (.int (1 : Int32))] [(.int (1 : Int32)), (.ref na)])) rfl rfl (hb hby d42_5)) ?_
  exact own_leaf X42_1 (v := some (.int b)) (own_ret Bd.returns) (BodyLoose.notSynchronized Bd) e42_1 (⟨rfl, N0, rfl⟩) (by decide) (by decide) (fun fs hr => retI X42_1 hx Bd.returns (hb hby d42_6) hr)
theorem rmTE_1 (l : Launch) (Z : State) (a0 : Array Value) (hw : ∀ d ∈ tables_1, d.before a0 Z = true) (ws : List Jvm.Cond) (r0 : Addr) (ta : Addr) (kt : ClassId) (t : Addr) (v0 : Value) (h0 : Heap) (n0 : Nat) (Z0 : n0 ≤ h0.size) (Ft : Fld Z h0 r0 "com/example/copperline/copperline/Program" "texts" "[Ljava/lang/String;" (.ref ta)) (Vt : Arv Z h0 ta kt (.object "java/lang/String") (16 : Int32) [v0, (.ref t), .null, .null, .null, .null, .null, .null, .null, .null, .null, .null, .null, .null, .null, .null] .null) : OwnC l Z mN28 (Jvm.Cond.code mN28 prog_49_method_6_code 2 (some (.object "java/lang/String")) :: ws) ({ frames := 0, cells := 0, slots := 0, locals := 0 } : Room) #[(.ref r0), (.int (1 : Int32))] h0 (Q43 Z t h0 n0) := by
  refine own_body (plainFor_of_name pn43) (fun m => ef43 m r0 (1 : Int32)) ?_
  intro p e s m below meth c s₁ Bd hZ hml hown e0 hx hby hnm X0
  have N0 := Fr.nil n0
  refine own_fw (fun _ => ox_aloadN X0.here hx (hb hby d43_0) rfl rfl) ?_
  refine own_gf X0 hx hZ hown (own_w hw 14 rfl) Via.refl e0 Ft (hb hby d43_1) rfl fun T43_1 X43_1 e43_1 => ?_
  refine own_fw (fun _ => ox_iloadN X43_1.here hx (hb hby d43_4) rfl) ?_
  obtain ⟨cl43_2, Ar43_2, q43_2, S43_2, Ng43_2, Hs43_2, G43_2⟩ := id Vt
  have hin43_2 : ¬ ((1 : Int32) < 0 ∨ cl43_2.slots.size ≤ ((1 : Int32)).toNatClampNeg) := inb_of S43_2 ⟨by decide, by decide⟩
  refine own_fw (A := T43_1.setTop (mkF m 6 #[.val (.ref r0), .val (.int (1 : Int32))] [(.ref t)])) (X43_1.aaload hx (j := (1 : Int32)) (v := (.ref t)) (by rw [e43_1]; exact Ar43_2.1) (State.isArrayOf_alike hZ.alike Ar43_2.2.1) rfl Ar43_2.2.2 hin43_2 (Has.at Hs43_2 hin43_2 rfl) (g := (mkF m 5 #[.val (.ref r0), .val (.int (1 : Int32))] [(.int (1 : Int32)), (.ref ta)])) rfl rfl (hb hby d43_5)) ?_
  exact own_leaf X43_1 (v := some (.ref t)) (own_ret Bd.returns) (BodyLoose.notSynchronized Bd) e43_1 (⟨rfl, N0, rfl⟩) (by decide) (by decide) (fun fs hr => retA (ty := (.object "java/lang/String")) X43_1 hx rfl rfl Bd.returns (hb hby d43_6) hr)
theorem d10_0 : decode cB7 0 = .ok (.aload_n 0, 1) := by decide +kernel
theorem d10_1 : decode cB7 1 = .ok (.aload_n 1, 1) := by decide +kernel
theorem d10_2 : decode cB7 2 = .ok (.getfield 7, 3) := by decide +kernel
theorem d10_5 : decode cB7 5 = .ok (.invokevirtual 125, 3) := by decide +kernel
theorem d10_8 : decode cB7 8 = .ok (.checkcast 126, 3) := by decide +kernel
theorem d10_11 : decode cB7 11 = .ok (.putfield 7, 3) := by decide +kernel
theorem d10_14 : decode cB7 14 = .ok (.aload_n 0, 1) := by decide +kernel
theorem d10_15 : decode cB7 15 = .ok (.aload_n 1, 1) := by decide +kernel
theorem d10_16 : decode cB7 16 = .ok (.getfield 15, 3) := by decide +kernel
theorem d10_19 : decode cB7 19 = .ok (.invokevirtual 130, 3) := by decide +kernel
theorem d10_22 : decode cB7 22 = .ok (.checkcast 131, 3) := by decide +kernel
theorem d10_25 : decode cB7 25 = .ok (.putfield 15, 3) := by decide +kernel
theorem d10_28 : decode cB7 28 = .ok (.aload_n 0, 1) := by decide +kernel
theorem d10_29 : decode cB7 29 = .ok (.aload_n 1, 1) := by decide +kernel
theorem d10_30 : decode cB7 30 = .ok (.getfield 62, 3) := by decide +kernel
theorem d10_33 : decode cB7 33 = .ok (.putfield 62, 3) := by decide +kernel
theorem d10_36 : decode cB7 36 = .ok (.aload_n 0, 1) := by decide +kernel
theorem d10_37 : decode cB7 37 = .ok (.dup, 1) := by decide +kernel
theorem d10_38 : decode cB7 38 = .ok (.getfield 66, 3) := by decide +kernel
theorem d10_41 : decode cB7 41 = .ok (.iconst 1, 1) := by decide +kernel
theorem d10_42 : decode cB7 42 = .ok (.iadd, 1) := by decide +kernel
theorem d10_43 : decode cB7 43 = .ok (.putfield 66, 3) := by decide +kernel
theorem d10_46 : decode cB7 46 = .ok (.return_, 1) := by decide +kernel
theorem pn10 : plainName "com/example/copperline/copperline/Program" = true := by first | (simp [plainName, overriddenIn]; done) | decide +kernel
theorem ef10 (m : MethodId) (r0 : Addr) (r1 : Addr) : entryFrame m #[(.ref r0), (.ref r1)] 2 = mkF m 0 #[.val (.ref r0), .val (.ref r1)] [] := by first | (simp [entryFrame, mkF, argsToLocals, Value.category]; done) | rfl
def Q10 (Z : State) (r0 : Addr) (kn kt : ClassId) (sz va a b : Int32) (v0 v1 : Value) (h0 : Heap) (n0 : Nat) (w : Option Value) (h : Heap) (L : List Loc) : Prop := ∃ na ta, w = none ∧ Fr n0 L ∧ Keep h0 h [r0] ∧ OwnPG Z h r0 na ta kn kt sz (va + (1 : Int32)) a b v0 v1 ∧ h0.size ≤ na ∧ h0.size ≤ ta
theorem rm10 (l : Launch) (Z : State) (a0 : Array Value) (hw : ∀ d ∈ tables_1, d.before a0 Z = true) (ws : List Jvm.Cond) (r0 : Addr) (r1 : Addr) (na : Addr) (ta : Addr) (kn : ClassId) (kt : ClassId) (sz : Int32) (ver : Int32) (a : Int32) (b : Int32) (v0 : Value) (v1 : Value) (x1 : Addr) (x2 : Addr) (x3 : Int32) (va : Int32) (h0 : Heap) (n0 : Nat) (Z0 : n0 ≤ h0.size) (P_0 : OwnPG Z h0 r1 na ta kn kt sz ver a b v0 v1) (E_0 : Exa Z h0 r0 "com/example/copperline/copperline/Program") (F1 : Fld Z h0 r0 "com/example/copperline/copperline/Program" "numbers" "[I" (.ref x1)) (F2 : Fld Z h0 r0 "com/example/copperline/copperline/Program" "texts" "[Ljava/lang/String;" (.ref x2)) (F3 : Fld Z h0 r0 "com/example/copperline/copperline/Program" "size" "I" (.int x3)) (F4 : Fld Z h0 r0 "com/example/copperline/copperline/Program" "version" "I" (.int va)) (hne : r0 ≠ r1) (g_r0 : n0 ≤ r0) : OwnC l Z (⟨"com/example/copperline/copperline/Program", "replaceWith", "(Lcom/example/copperline/copperline/Program;)V"⟩ : MethodName) (Jvm.Cond.code (⟨"com/example/copperline/copperline/Program", "replaceWith", "(Lcom/example/copperline/copperline/Program;)V"⟩ : MethodName) prog_49_method_11_code 2 none :: ws) ({ frames := 1, cells := 2, slots := 32, locals := 15 } : Room) #[(.ref r0), (.ref r1)] h0 (Q10 Z r0 kn kt sz va a b v0 v1 h0 n0) := by
  refine own_body (plainFor_of_name pn10) (fun m => ef10 m r0 r1) ?_
  intro p e s m below meth c s₁ Bd hZ hml hown e0 hx hby hnm X0
  have N0 := Fr.nil n0
  obtain ⟨Ep, Fn, Ft, Fs, Fv, Vn, Vt, En, Et, Ov, nt⟩ := P_0
  have m0 : r0 ≠ na := Exa.neArv E_0 Vn (own_w hw 1 rfl)
  have m1 : r0 ≠ ta := Exa.neArv E_0 Vt (own_w hw 1 rfl)
  refine own_fw (fun _ => ox_aloadN X0.here hx (hb hby d10_0) rfl rfl) ?_
  refine own_fw (fun _ => ox_aloadN X0.here hx (hb hby d10_1) rfl rfl) ?_
  refine own_gf X0 hx hZ hown (own_w hw 10 rfl) Via.refl e0 Fn (hb hby d10_2) rfl fun T10_1 X10_1 e10_1 => ?_
  obtain ⟨T10_2, h10_2, X10_2, e10_2, E10_2, V_b10_2, Ex10_2, st10_2⟩ := own_clone X10_1 hx hZ hown (own_w hw 63 rfl) (own_w hw 64 rfl) (own_w hw 68 rfl) (own_w hw 66 rfl) (own_w hw 67 rfl) (own_w hw 69 rfl) e10_1 Vn En (g := (mkF m 5 #[.val (.ref r0), .val (.ref r1)] [(.ref na), (.ref r0)])) rfl (by rw [hml]; rfl) (rest := [(.ref r0)]) rfl (hb hby d10_5) (by decide) (W := 1) (cap := 16) (own_mr rfl) (by decide) (by decide) (by decide) (by decide)
  obtain ⟨b10_2, g10_2⟩ : ∃ z, z = h0.size := ⟨_, rfl⟩
  rw [← g10_2] at V_b10_2 Ex10_2 st10_2
  have ne_r0_b10_2 : r0 ≠ b10_2 := Nat.ne_of_lt (Nat.lt_of_lt_of_le E_0.lt (Nat.le_of_eq g10_2.symm))
  have sz_b10_2 : h0.size ≤ b10_2 := Nat.le_trans (Keep.refl h0 [r0]).1 (Nat.le_of_eq g10_2.symm)
  refine own_fw (A := T10_2.setTop (mkF m 8 #[.val (.ref r0), .val (.ref r1)] [(.ref b10_2), (.ref r0)])) st10_2 ?_
  obtain ⟨T10_3, X10_3, e10_3, st10_3⟩ := castY X10_2 hx hZ hown (own_w hw 70 rfl) e10_2 (Ins.self Ex10_2) (g := (mkF m 8 #[.val (.ref r0), .val (.ref r1)] [(.ref b10_2), (.ref r0)])) rfl rfl (hb hby d10_8)
  refine own_fw (A := T10_3.setTop (mkF m 11 #[.val (.ref r0), .val (.ref r1)] [(.ref b10_2), (.ref r0)])) st10_3 ?_
  obtain ⟨T10_4, h10_4, X10_4, e10_4, W10_4, st10_4⟩ := putF X10_3 hx hZ hown (host := "") (Or.inl (own_w hw 10 rfl)) Via.refl e10_3 (F1.ext E10_2) (E_0.ext E10_2) (Or.inl (own_w hw 11 rfl)) (own_w hw 1 rfl) (ty := (.array .int)) (by decide) rfl rfl (g := (mkF m 11 #[.val (.ref r0), .val (.ref r1)] [(.ref b10_2), (.ref r0)])) rfl rfl (hb hby d10_11)
  have Fw10_4 := (F1.ext E10_2).same W10_4
  have N10_4 := Fr.snoc X10_4 N0 g_r0
  refine own_fw (A := T10_4.setTop (mkF m 14 #[.val (.ref r0), .val (.ref r1)] [])) st10_4 ?_
  have fc10_5 := ((F2.ext E10_2).other W10_4 (Or.inr (slot_ne (Or.inl (own_w hw 15 rfl)) (Or.inl (own_w hw 11 rfl)) (by decide) (t := (.array (.object "java/lang/String"))) (t' := (.array .int)) (by decide) (by decide))))
  have fc10_6 := ((F3.ext E10_2).other W10_4 (Or.inr (slot_ne (Or.inl (own_w hw 57 rfl)) (Or.inl (own_w hw 11 rfl)) (by decide) (t := .int) (t' := (.array .int)) (by decide) (by decide))))
  have fc10_7 := ((F4.ext E10_2).other W10_4 (Or.inr (slot_ne (Or.inl (own_w hw 50 rfl)) (Or.inl (own_w hw 11 rfl)) (by decide) (t := .int) (t' := (.array .int)) (by decide) (by decide))))
  have fc10_8 := (((Keep.refl h0 [r0]).ext E10_2).wr W10_4 (Or.inl (List.mem_of_getElem? (i := 0) rfl)))
  refine own_fw (fun _ => ox_aloadN X10_4.here hx (hb hby d10_14) rfl rfl) ?_
  refine own_fw (fun _ => ox_aloadN X10_4.here hx (hb hby d10_15) rfl rfl) ?_
  refine own_gf X10_4 hx hZ hown (own_w hw 14 rfl) Via.refl e10_4 ((Ft.ext E10_2).other W10_4 (Or.inl (Ne.symm hne))) (hb hby d10_16) rfl fun T10_10 X10_10 e10_10 => ?_
  obtain ⟨T10_11, h10_11, X10_11, e10_11, E10_11, V_b10_11, Ex10_11, st10_11⟩ := own_clone X10_10 hx hZ hown (own_w hw 72 rfl) (own_w hw 73 rfl) (own_w hw 68 rfl) (own_w hw 66 rfl) (own_w hw 74 rfl) (own_w hw 75 rfl) e10_10 ((Vt.ext E10_2).other W10_4 (Ne.symm m1)) ((Et.ext E10_2).wr W10_4) (g := (mkF m 19 #[.val (.ref r0), .val (.ref r1)] [(.ref ta), (.ref r0)])) rfl (by rw [hml]; rfl) (rest := [(.ref r0)]) rfl (hb hby d10_19) (by decide) (W := 1) (cap := 16) (own_mr rfl) (by decide) (by decide) (by decide) (by decide)
  obtain ⟨b10_11, g10_11⟩ : ∃ z, z = h10_4.size := ⟨_, rfl⟩
  rw [← g10_11] at V_b10_11 Ex10_11 st10_11
  have ne_r0_b10_11 : r0 ≠ b10_11 := Nat.ne_of_lt (Nat.lt_of_lt_of_le ((E_0.ext E10_2).wr W10_4).lt (Nat.le_of_eq g10_11.symm))
  have ne_b10_2_b10_11 : b10_2 ≠ b10_11 := Nat.ne_of_lt (Nat.lt_of_lt_of_le (V_b10_2.other W10_4 (Ne.symm ne_r0_b10_2)).lt (Nat.le_of_eq g10_11.symm))
  have sz_b10_11 : h0.size ≤ b10_11 := Nat.le_trans fc10_8.1 (Nat.le_of_eq g10_11.symm)
  refine own_fw (A := T10_11.setTop (mkF m 22 #[.val (.ref r0), .val (.ref r1)] [(.ref b10_11), (.ref r0)])) st10_11 ?_
  have fc10_14 := (((Fs.ext E10_2).other W10_4 (Or.inl (Ne.symm hne))).ext E10_11)
  obtain ⟨T10_16, X10_16, e10_16, st10_16⟩ := castY X10_11 hx hZ hown (own_w hw 76 rfl) e10_11 (Ins.self Ex10_11) (g := (mkF m 22 #[.val (.ref r0), .val (.ref r1)] [(.ref b10_11), (.ref r0)])) rfl rfl (hb hby d10_22)
  refine own_fw (A := T10_16.setTop (mkF m 25 #[.val (.ref r0), .val (.ref r1)] [(.ref b10_11), (.ref r0)])) st10_16 ?_
  obtain ⟨T10_17, h10_17, X10_17, e10_17, W10_17, st10_17⟩ := putF X10_16 hx hZ hown (host := "") (Or.inl (own_w hw 14 rfl)) Via.refl e10_16 (fc10_5.ext E10_11) (((E_0.ext E10_2).wr W10_4).ext E10_11) (Or.inl (own_w hw 15 rfl)) (own_w hw 1 rfl) (ty := (.array (.object "java/lang/String"))) (by decide) rfl rfl (g := (mkF m 25 #[.val (.ref r0), .val (.ref r1)] [(.ref b10_11), (.ref r0)])) rfl rfl (hb hby d10_25)
  have Fw10_17 := (fc10_5.ext E10_11).same W10_17
  have N10_17 := Fr.snoc X10_17 N10_4 g_r0
  refine own_fw (A := T10_17.setTop (mkF m 28 #[.val (.ref r0), .val (.ref r1)] [])) st10_17 ?_
  have fc10_20 := ((Fw10_4.ext E10_11).other W10_17 (Or.inr (slot_ne (Or.inl (own_w hw 11 rfl)) (Or.inl (own_w hw 15 rfl)) (by decide) (t := (.array .int)) (t' := (.array (.object "java/lang/String"))) (by decide) (by decide))))
  have fc10_21 := ((fc10_6.ext E10_11).other W10_17 (Or.inr (slot_ne (Or.inl (own_w hw 57 rfl)) (Or.inl (own_w hw 15 rfl)) (by decide) (t := .int) (t' := (.array (.object "java/lang/String"))) (by decide) (by decide))))
  have fc10_22 := ((fc10_7.ext E10_11).other W10_17 (Or.inr (slot_ne (Or.inl (own_w hw 50 rfl)) (Or.inl (own_w hw 15 rfl)) (by decide) (t := .int) (t' := (.array (.object "java/lang/String"))) (by decide) (by decide))))
  have fc10_23 := (((V_b10_2.other W10_4 (Ne.symm ne_r0_b10_2)).ext E10_11).other W10_17 (Ne.symm ne_r0_b10_2))
  have fc10_24 := ((fc10_8.ext E10_11).wr W10_17 (Or.inl (List.mem_of_getElem? (i := 0) rfl)))
  refine own_fw (fun _ => ox_aloadN X10_17.here hx (hb hby d10_28) rfl rfl) ?_
  refine own_fw (fun _ => ox_aloadN X10_17.here hx (hb hby d10_29) rfl rfl) ?_
  refine own_gf X10_17 hx hZ hown (own_w hw 56 rfl) Via.refl e10_17 (fc10_14.other W10_17 (Or.inl (Ne.symm hne))) (hb hby d10_30) rfl fun T10_26 X10_26 e10_26 => ?_
  obtain ⟨T10_27, h10_27, X10_27, e10_27, W10_27, st10_27⟩ := putF X10_26 hx hZ hown (host := "") (Or.inl (own_w hw 56 rfl)) Via.refl e10_26 fc10_21 ((((E_0.ext E10_2).wr W10_4).ext E10_11).wr W10_17) (Or.inl (own_w hw 57 rfl)) (own_w hw 1 rfl) (ty := .int) (by decide) rfl rfl (g := (mkF m 33 #[.val (.ref r0), .val (.ref r1)] [(.int sz), (.ref r0)])) rfl rfl (hb hby d10_33)
  have Fw10_27 := fc10_21.same W10_27
  have N10_27 := Fr.snoc X10_27 N10_17 g_r0
  refine own_fw (A := T10_27.setTop (mkF m 36 #[.val (.ref r0), .val (.ref r1)] [])) st10_27 ?_
  have fc10_35 := (((((E_0.ext E10_2).wr W10_4).ext E10_11).wr W10_17).wr W10_27)
  have fc10_36 := (fc10_20.other W10_27 (Or.inr (slot_ne (Or.inl (own_w hw 11 rfl)) (Or.inl (own_w hw 57 rfl)) (by decide) (t := (.array .int)) (t' := .int) (by decide) (by decide))))
  have fc10_37 := (Fw10_17.other W10_27 (Or.inr (slot_ne (Or.inl (own_w hw 15 rfl)) (Or.inl (own_w hw 57 rfl)) (by decide) (t := (.array (.object "java/lang/String"))) (t' := .int) (by decide) (by decide))))
  have fc10_38 := (fc10_22.other W10_27 (Or.inr (slot_ne (Or.inl (own_w hw 50 rfl)) (Or.inl (own_w hw 57 rfl)) (by decide) (t := .int) (t' := .int) (by decide) (by decide))))
  have fc10_39 := ((V_b10_11.other W10_17 (Ne.symm ne_r0_b10_11)).other W10_27 (Ne.symm ne_r0_b10_11))
  have fc10_40 := (fc10_24.wr W10_27 (Or.inl (List.mem_of_getElem? (i := 0) rfl)))
  refine own_fw (fun _ => ox_aloadN X10_27.here hx (hb hby d10_36) rfl rfl) ?_
  refine own_fw (fun _ => ox_dup X10_27.here hx (hb hby d10_37) rfl rfl) ?_
  refine own_gf X10_27 hx hZ hown (own_w hw 49 rfl) Via.refl e10_27 fc10_38 (hb hby d10_38) rfl fun T10_41 X10_41 e10_41 => ?_
  refine own_fw (fun _ => ox_iconst X10_41.here hx (hb hby d10_41)) ?_
  refine own_fw (fun _ => ox_iadd X10_41.here hx (hb hby d10_42) rfl) ?_
  obtain ⟨T10_42, h10_42, X10_42, e10_42, W10_42, st10_42⟩ := putF X10_41 hx hZ hown (host := "") (Or.inl (own_w hw 49 rfl)) Via.refl e10_41 fc10_38 fc10_35 (Or.inl (own_w hw 50 rfl)) (own_w hw 1 rfl) (ty := .int) (by decide) rfl rfl (g := (mkF m 43 #[.val (.ref r0), .val (.ref r1)] [(.int (va + (1 : Int32))), (.ref r0)])) rfl rfl (hb hby d10_43)
  have Fw10_42 := fc10_38.same W10_42
  have N10_42 := Fr.snoc X10_42 N10_27 g_r0
  refine own_fw (A := T10_42.setTop (mkF m 46 #[.val (.ref r0), .val (.ref r1)] [])) st10_42 ?_
  have fc10_45 := (fc10_36.other W10_42 (Or.inr (slot_ne (Or.inl (own_w hw 11 rfl)) (Or.inl (own_w hw 50 rfl)) (by decide) (t := (.array .int)) (t' := .int) (by decide) (by decide))))
  have fc10_46 := (fc10_37.other W10_42 (Or.inr (slot_ne (Or.inl (own_w hw 15 rfl)) (Or.inl (own_w hw 50 rfl)) (by decide) (t := (.array (.object "java/lang/String"))) (t' := .int) (by decide) (by decide))))
  have fc10_47 := (Fw10_27.other W10_42 (Or.inr (slot_ne (Or.inl (own_w hw 57 rfl)) (Or.inl (own_w hw 50 rfl)) (by decide) (t := .int) (t' := .int) (by decide) (by decide))))
  have fc10_48 := ((fc10_23.other W10_27 (Ne.symm ne_r0_b10_2)).other W10_42 (Ne.symm ne_r0_b10_2))
  have fc10_49 := (((((Ex10_2.wr W10_4).ext E10_11).wr W10_17).wr W10_27).wr W10_42)
  have fc10_50 := (fc10_40.wr W10_42 (Or.inl (List.mem_of_getElem? (i := 0) rfl)))
  exact own_leaf X10_42 (v := none) (fun _ => rfl) (BodyLoose.notSynchronized Bd) e10_42 (⟨b10_2, b10_11, rfl, N10_42, fc10_50, ⟨(fc10_35.wr W10_42), fc10_45, fc10_46, fc10_47, Fw10_42, fc10_48, (fc10_39.other W10_42 (Ne.symm ne_r0_b10_11)), fc10_49, (((Ex10_11.wr W10_17).wr W10_27).wr W10_42), Ov, ne_b10_2_b10_11⟩, sz_b10_2, sz_b10_11⟩) (by decide) (by decide) (fun fs hr => X10_42.returnOut hx Bd.returns (hb hby d10_46) hr)
theorem d44_0 : decode jdk_42_method_66_code 0 = .ok (.aload_n 0, 1) := by decide +kernel
theorem d44_1 : decode jdk_42_method_66_code 1 = .ok (.aload_n 1, 1) := by decide +kernel
theorem d44_2 : decode jdk_42_method_66_code 2 = .ok (.if_acmp .ne 5, 3) := by decide +kernel
theorem d44_5 : decode jdk_42_method_66_code 5 = .ok (.iconst 1, 1) := by decide +kernel
theorem d44_6 : decode jdk_42_method_66_code 6 = .ok (.ireturn, 1) := by decide +kernel
theorem pn44 : plainName "java/lang/String" = true := by first | (simp [plainName, overriddenIn]; done) | decide +kernel
theorem ef44 (m : MethodId) (r0 : Addr) (r1 : Addr) : entryFrame m #[(.ref r0), (.ref r1)] 3 = mkF m 0 #[.val (.ref r0), .val (.ref r1), .unset] [] := by first | (simp [entryFrame, mkF, argsToLocals, Value.category]; done) | rfl
def Q44 (Z : State) (z : Int32) (h0 : Heap) (n0 : Nat) (w : Option Value) (h : Heap) (L : List Loc) : Prop := w = some (.int z) ∧ Fr n0 L ∧ h = h0
theorem rm44 (l : Launch) (Z : State) (a0 : Array Value) (hw : ∀ d ∈ tables_1, d.before a0 Z = true) (ws : List Jvm.Cond) (r0 : Addr) (h0 : Heap) (n0 : Nat) (Z0 : n0 ≤ h0.size) : OwnC l Z (⟨"java/lang/String", "equals", "(Ljava/lang/Object;)Z"⟩ : MethodName) (Jvm.Cond.code (⟨"java/lang/String", "equals", "(Ljava/lang/Object;)Z"⟩ : MethodName) jdk_42_method_66_code 3 (some .boolean) :: ws) ({ frames := 0, cells := 0, slots := 0, locals := 0 } : Room) #[(.ref r0), (.ref r0)] h0 (Q44 Z (1 : Int32) h0 n0) := by
  refine own_body (plainFor_of_name pn44) (fun m => ef44 m r0 r0) ?_
  intro p e s m below meth c s₁ Bd hZ hml hown e0 hx hby hnm X0
  have N0 := Fr.nil n0
  refine own_fw (fun _ => ox_aloadN X0.here hx (hb hby d44_0) rfl rfl) ?_
  refine own_fw (fun _ => ox_aloadN X0.here hx (hb hby d44_1) rfl rfl) ?_
  refine own_fw (A := s₁.setTop (mkF m 5 #[.val (.ref r0), .val (.ref r0), .unset] [])) (fun t k => ?_) ?_
  · refine Jvm.RoadKit.acmp (g := (mkF m 2 #[.val (.ref r0), .val (.ref r0), .unset] [(.ref r0), (.ref r0)])) X0 hx rfl rfl rfl (pc0 := 2) (pc' := 5) (same := true) rfl (hb hby d44_2) rfl (decide_eq_true rfl) (by decide) (by decide) ?_
    exact k
  refine own_fw (fun _ => ox_iconst X0.here hx (hb hby d44_5)) ?_
  exact own_leaf X0 (v := some (.int (nar .boolean (1 : Int32)))) (own_ret Bd.returns) (BodyLoose.notSynchronized Bd) e0 (⟨rfl, N0, rfl⟩) (by decide) (by decide) (fun fs hr => retN X0 hx (t := .boolean) Bd.returns (by simp) (hb hby d44_6) hr)
theorem d11_0 : decode method_3_code 0 = .ok (.iload_n 2, 1) := by decide +kernel
theorem d11_1 : decode method_3_code 1 = .ok (.iload_n 3, 1) := by decide +kernel
theorem d11_2 : decode method_3_code 2 = .ok (.if_icmp .ge 32, 3) := by decide +kernel
theorem d11_5 : decode method_3_code 5 = .ok (.aload_n 0, 1) := by decide +kernel
theorem d11_6 : decode method_3_code 6 = .ok (.iload_n 2, 1) := by decide +kernel
theorem d11_7 : decode method_3_code 7 = .ok (.invokevirtual 12, 3) := by decide +kernel
theorem d11_10 : decode method_3_code 10 = .ok (.aload_n 1, 1) := by decide +kernel
theorem d11_11 : decode method_3_code 11 = .ok (.iload_n 2, 1) := by decide +kernel
theorem d11_12 : decode method_3_code 12 = .ok (.invokevirtual 12, 3) := by decide +kernel
theorem d11_15 : decode method_3_code 15 = .ok (.if_icmp .ne 23, 3) := by decide +kernel
theorem d11_18 : decode method_3_code 18 = .ok (.aload_n 0, 1) := by decide +kernel
theorem d11_19 : decode method_3_code 19 = .ok (.iload_n 2, 1) := by decide +kernel
theorem d11_20 : decode method_3_code 20 = .ok (.invokevirtual 18, 3) := by decide +kernel
theorem d11_23 : decode method_3_code 23 = .ok (.aload_n 1, 1) := by decide +kernel
theorem d11_24 : decode method_3_code 24 = .ok (.iload_n 2, 1) := by decide +kernel
theorem d11_25 : decode method_3_code 25 = .ok (.invokevirtual 18, 3) := by decide +kernel
theorem d11_28 : decode method_3_code 28 = .ok (.invokevirtual 22, 3) := by decide +kernel
theorem d11_31 : decode method_3_code 31 = .ok (.ifCond .eq 7, 3) := by decide +kernel
theorem d11_34 : decode method_3_code 34 = .ok (.iconst 1, 1) := by decide +kernel
theorem d11_35 : decode method_3_code 35 = .ok (.goto 4, 3) := by decide +kernel
theorem d11_39 : decode method_3_code 39 = .ok (.ireturn, 1) := by decide +kernel
theorem pn11 : plainName "com/example/copperline/copperline/ProgramReplaceWithPinLaw" = true := by first | (simp [plainName, overriddenIn]; done) | decide +kernel
theorem pd11_0 : parseMethodDescriptor "(I)I" = some ⟨[.int], some .int⟩ := by decide +kernel
theorem pd11_1 : parseMethodDescriptor "(I)Ljava/lang/String;" = some ⟨[.int], some (.object "java/lang/String")⟩ := by decide +kernel
theorem pd11_2 : parseMethodDescriptor "(Ljava/lang/Object;)Z" = some ⟨[(.object "java/lang/Object")], some .boolean⟩ := by decide +kernel
theorem ef11 (m : MethodId) (r0 : Addr) (r1 : Addr) (p2 : Int32) (p3 : Int32) : entryFrame m #[(.ref r0), (.ref r1), (.int p2), (.int p3)] 4 = mkF m 0 #[.val (.ref r0), .val (.ref r1), .val (.int p2), .val (.int p3)] [] := by first | (simp [entryFrame, mkF, argsToLocals, Value.category]; done) | rfl
def Q11 (Z : State) (z : Int32) (h0 : Heap) (n0 : Nat) (w : Option Value) (h : Heap) (L : List Loc) : Prop := w = some (.int z) ∧ Fr n0 L ∧ h = h0
theorem d40_0 : decode method_4_code 0 = .ok (.iload_n 1, 1) := by decide +kernel
theorem d40_1 : decode method_4_code 1 = .ok (.iload_n 2, 1) := by decide +kernel
theorem d40_2 : decode method_4_code 2 = .ok (.if_icmp .ge 25, 3) := by decide +kernel
theorem d40_5 : decode method_4_code 5 = .ok (.aload_n 0, 1) := by decide +kernel
theorem d40_6 : decode method_4_code 6 = .ok (.iload_n 1, 1) := by decide +kernel
theorem d40_7 : decode method_4_code 7 = .ok (.invokevirtual 12, 3) := by decide +kernel
theorem d40_10 : decode method_4_code 10 = .ok (.iload_n 3, 1) := by decide +kernel
theorem d40_11 : decode method_4_code 11 = .ok (.if_icmp .ne 20, 3) := by decide +kernel
theorem d40_14 : decode method_4_code 14 = .ok (.aload_n 0, 1) := by decide +kernel
theorem d40_15 : decode method_4_code 15 = .ok (.iload_n 1, 1) := by decide +kernel
theorem d40_16 : decode method_4_code 16 = .ok (.invokevirtual 18, 3) := by decide +kernel
theorem d40_19 : decode method_4_code 19 = .ok (.aload 4, 2) := by decide +kernel
theorem d40_21 : decode method_4_code 21 = .ok (.invokevirtual 22, 3) := by decide +kernel
theorem d40_24 : decode method_4_code 24 = .ok (.ifCond .eq 7, 3) := by decide +kernel
theorem d40_27 : decode method_4_code 27 = .ok (.iconst 1, 1) := by decide +kernel
theorem d40_28 : decode method_4_code 28 = .ok (.goto 4, 3) := by decide +kernel
theorem d40_32 : decode method_4_code 32 = .ok (.ireturn, 1) := by decide +kernel
theorem pn40 : plainName "com/example/copperline/copperline/ProgramReplaceWithPinLaw" = true := by first | (simp [plainName, overriddenIn]; done) | decide +kernel
theorem pd40_0 : parseMethodDescriptor "(I)I" = some ⟨[.int], some .int⟩ := by decide +kernel
theorem pd40_1 : parseMethodDescriptor "(I)Ljava/lang/String;" = some ⟨[.int], some (.object "java/lang/String")⟩ := by decide +kernel
theorem pd40_2 : parseMethodDescriptor "(Ljava/lang/Object;)Z" = some ⟨[(.object "java/lang/Object")], some .boolean⟩ := by decide +kernel
theorem ef40 (m : MethodId) (r0 : Addr) (p1 : Int32) (p2 : Int32) (p3 : Int32) (r4 : Addr) : entryFrame m #[(.ref r0), (.int p1), (.int p2), (.int p3), (.ref r4)] 5 = mkF m 0 #[.val (.ref r0), .val (.int p1), .val (.int p2), .val (.int p3), .val (.ref r4)] [] := by first | (simp [entryFrame, mkF, argsToLocals, Value.category]; done) | rfl
def Q40 (Z : State) (z : Int32) (h0 : Heap) (n0 : Nat) (w : Option Value) (h : Heap) (L : List Loc) : Prop := w = some (.int z) ∧ Fr n0 L ∧ h = h0
theorem rmSM_ge (l : Launch) (Z : State) (a0 : Array Value) (hw : ∀ d ∈ tables_1, d.before a0 Z = true) (ws : List Jvm.Cond) (r0 : Addr) (r1 : Addr) (p2 : Int32) (p3 : Int32) (h0 : Heap) (n0 : Nat) (Z0 : n0 ≤ h0.size) (hge : ¬ p2 < p3) : OwnC l Z mN10 (Jvm.Cond.code mN10 method_3_code 4 (some .boolean) :: ws) ({ frames := 0, cells := 0, slots := 0, locals := 0 } : Room) #[(.ref r0), (.ref r1), (.int p2), (.int p3)] h0 (Q11 Z (1 : Int32) h0 n0) := by
  refine own_body (plainFor_of_name pn11) (fun m => ef11 m r0 r1 p2 p3) ?_
  intro p e s m below meth c s₁ Bd hZ hml hown e0 hx hby hnm X0
  have N0 := Fr.nil n0
  refine own_fw (fun _ => ox_iloadN X0.here hx (hb hby d11_0) rfl) ?_
  refine own_fw (fun _ => ox_iloadN X0.here hx (hb hby d11_1) rfl) ?_
  refine own_fw (fun _ => ox_icmpYes X0.here hx (pc0 := 2) (pc' := 34) rfl (hb hby d11_2) rfl (flt hge).2.1 (by decide) (by decide)) ?_
  refine own_fw (fun _ => ox_iconst X0.here hx (hb hby d11_34)) ?_
  refine own_fw (fun _ => ox_goto X0.here hx (pc0 := 35) (pc' := 39) rfl (hb hby d11_35) (by decide) (by decide)) ?_
  exact own_leaf X0 (v := some (.int (nar .boolean (1 : Int32)))) (own_ret Bd.returns) (BodyLoose.notSynchronized Bd) e0 (⟨rfl, N0, rfl⟩) (by decide) (by decide) (fun fs hr => retN X0 hx (t := .boolean) Bd.returns (by simp) (hb hby d11_39) hr)
theorem ef40n (m : MethodId) (r0 : Addr) (p1 : Int32) (p2 : Int32) (p3 : Int32) : entryFrame m #[(.ref r0), (.int p1), (.int p2), (.int p3), .null] 5 = mkF m 0 #[.val (.ref r0), .val (.int p1), .val (.int p2), .val (.int p3), .val .null] [] := by first | (simp [entryFrame, mkF, argsToLocals, Value.category]; done) | rfl
theorem rmKP_ge (l : Launch) (Z : State) (a0 : Array Value) (hw : ∀ d ∈ tables_1, d.before a0 Z = true) (ws : List Jvm.Cond) (r0 : Addr) (p1 : Int32) (p2 : Int32) (p3 : Int32) (h0 : Heap) (n0 : Nat) (Z0 : n0 ≤ h0.size) (hge : ¬ p1 < p2) : OwnC l Z mN11 (Jvm.Cond.code mN11 method_4_code 5 (some .boolean) :: ws) ({ frames := 0, cells := 0, slots := 0, locals := 0 } : Room) #[(.ref r0), (.int p1), (.int p2), (.int p3), .null] h0 (Q40 Z (1 : Int32) h0 n0) := by
  refine own_body (plainFor_of_name pn40) (fun m => ef40n m r0 p1 p2 p3) ?_
  intro p e s m below meth c s₁ Bd hZ hml hown e0 hx hby hnm X0
  have N0 := Fr.nil n0
  refine own_fw (fun _ => ox_iloadN X0.here hx (hb hby d40_0) rfl) ?_
  refine own_fw (fun _ => ox_iloadN X0.here hx (hb hby d40_1) rfl) ?_
  refine own_fw (fun _ => ox_icmpYes X0.here hx (pc0 := 2) (pc' := 27) rfl (hb hby d40_2) rfl (flt hge).2.1 (by decide) (by decide)) ?_
  refine own_fw (fun _ => ox_iconst X0.here hx (hb hby d40_27)) ?_
  refine own_fw (fun _ => ox_goto X0.here hx (pc0 := 28) (pc' := 32) rfl (hb hby d40_28) (by decide) (by decide)) ?_
  exact own_leaf X0 (v := some (.int (nar .boolean (1 : Int32)))) (own_ret Bd.returns) (BodyLoose.notSynchronized Bd) e0 (⟨rfl, N0, rfl⟩) (by decide) (by decide) (fun fs hr => retN X0 hx (t := .boolean) Bd.returns (by simp) (hb hby d40_32) hr)
theorem rmSM_0 (l : Launch) (Z : State) (a0 : Array Value) (hw : ∀ d ∈ tables_1, d.before a0 Z = true) (ws : List Jvm.Cond) (r0 : Addr) (r1 : Addr) (p3 : Int32) (na : Addr) (ta : Addr) (kn : ClassId) (kt : ClassId) (nb : Addr) (tb : Addr) (kn2 : ClassId) (kt2 : ClassId) (va : Int32) (vr : Int32) (a : Int32) (b : Int32) (tt : Addr) (v1 : Value) (sz : Int32) (h0 : Heap) (n0 : Nat) (Z0 : n0 ≤ h0.size) (P_0 : OwnPG Z h0 r0 na ta kn kt sz va a b (.ref tt) v1) (P_1 : OwnPG Z h0 r1 nb tb kn2 kt2 sz vr a b (.ref tt) v1) (E_t : Exa Z h0 tt "java/lang/String") (hlt : (0 : Int32) < p3) : OwnC l Z mN10 (Jvm.Cond.code mN10 method_3_code 4 (some .boolean) :: ws) ({ frames := 1, cells := 0, slots := 0, locals := 14 } : Room) #[(.ref r0), (.ref r1), (.int (0 : Int32)), (.int p3)] h0 (Q11 Z (1 : Int32) h0 n0) := by
  refine own_body (plainFor_of_name pn11) (fun m => ef11 m r0 r1 (0 : Int32) p3) ?_
  intro p e s m below meth c s₁ Bd hZ hml hown e0 hx hby hnm X0
  have N0 := Fr.nil n0
  obtain ⟨Epp, Fnp, Ftp, Fsp, Fvp, Vnp, Vtp, Enp, Etp, Ovp, ntp⟩ := P_0
  obtain ⟨Epq, Fnq, Ftq, Fsq, Fvq, Vnq, Vtq, Enq, Etq, Ovq, ntq⟩ := P_1
  refine own_fw (fun _ => ox_iloadN X0.here hx (hb hby d11_0) rfl) ?_
  refine own_fw (fun _ => ox_iloadN X0.here hx (hb hby d11_1) rfl) ?_
  refine own_fw (fun _ => ox_icmpNo X0.here hx (hb hby d11_2) rfl (tlt hlt).2.1) ?_
  refine own_fw (fun _ => ox_aloadN X0.here hx (hb hby d11_5) rfl rfl) ?_
  refine own_fw (fun _ => ox_iloadN X0.here hx (hb hby d11_6) rfl) ?_
  refine own_vc X0 hx hZ hown (rmNO_0 l Z a0 hw [] r0 na kn a b h0 n0 Z0 Fnp Vnp) (own_w hw 225 rfl) (own_w hw 226 rfl) (own_w hw 228 rfl) (own_w hw 227 rfl) (own_w hw 229 rfl) (own_w hw 2 rfl) (by decide) hml rfl Epp e0 (hb hby d11_7) rfl rfl (lenOf pd11_0 rfl) (W := 0) rfl (by decide) (by decide) (c' := 0) (s' := 0) rfl rfl (by decide) (by decide) ?_
  rintro _ T11_1 L11_1 X11_1 ⟨rfl, N11_1q, e11_1⟩
  have N11_1 := Fr.app N0 N11_1q
  refine own_fw (fun _ => ox_aloadN X11_1.here hx (hb hby d11_10) rfl rfl) ?_
  refine own_fw (fun _ => ox_iloadN X11_1.here hx (hb hby d11_11) rfl) ?_
  refine own_vc X11_1 hx hZ hown (rmNO_0 l Z a0 hw [] r1 nb kn2 a b h0 n0 Z0 Fnq Vnq) (own_w hw 225 rfl) (own_w hw 226 rfl) (own_w hw 228 rfl) (own_w hw 227 rfl) (own_w hw 229 rfl) (own_w hw 2 rfl) (by decide) hml rfl Epq e11_1 (hb hby d11_12) rfl rfl (lenOf pd11_0 rfl) (W := 1) rfl (by decide) (by decide) (c' := 0) (s' := 0) rfl rfl (by decide) (by decide) ?_
  rintro _ T11_2 L11_2 X11_2 ⟨rfl, N11_2q, e11_2⟩
  have N11_2 := Fr.app N11_1 N11_2q
  refine own_fw (fun _ => ox_icmpNo X11_2.here hx (hb hby d11_15) rfl (teq (rfl : a = a)).2) ?_
  refine own_fw (fun _ => ox_aloadN X11_2.here hx (hb hby d11_18) rfl rfl) ?_
  refine own_fw (fun _ => ox_iloadN X11_2.here hx (hb hby d11_19) rfl) ?_
  refine own_vc X11_2 hx hZ hown (rmTE_0 l Z a0 hw [] r0 ta kt tt v1 h0 n0 Z0 Ftp Vtp) (own_w hw 230 rfl) (own_w hw 231 rfl) (own_w hw 233 rfl) (own_w hw 232 rfl) (own_w hw 234 rfl) (own_w hw 2 rfl) (by decide) hml rfl Epp e11_2 (hb hby d11_20) rfl rfl (lenOf pd11_1 rfl) (W := 0) rfl (by decide) (by decide) (c' := 0) (s' := 0) rfl rfl (by decide) (by decide) ?_
  rintro _ T11_3 L11_3 X11_3 ⟨rfl, N11_3q, e11_3⟩
  have N11_3 := Fr.app N11_2 N11_3q
  refine own_fw (fun _ => ox_aloadN X11_3.here hx (hb hby d11_23) rfl rfl) ?_
  refine own_fw (fun _ => ox_iloadN X11_3.here hx (hb hby d11_24) rfl) ?_
  refine own_vc X11_3 hx hZ hown (rmTE_0 l Z a0 hw [] r1 tb kt2 tt v1 h0 n0 Z0 Ftq Vtq) (own_w hw 230 rfl) (own_w hw 231 rfl) (own_w hw 233 rfl) (own_w hw 232 rfl) (own_w hw 234 rfl) (own_w hw 2 rfl) (by decide) hml rfl Epq e11_3 (hb hby d11_25) rfl rfl (lenOf pd11_1 rfl) (W := 1) rfl (by decide) (by decide) (c' := 0) (s' := 0) rfl rfl (by decide) (by decide) ?_
  rintro _ T11_4 L11_4 X11_4 ⟨rfl, N11_4q, e11_4⟩
  have N11_4 := Fr.app N11_3 N11_4q
  refine own_vc X11_4 hx hZ hown (rm44 l Z a0 hw [] tt h0 n0 Z0 ) (own_w hw 235 rfl) (own_w hw 236 rfl) (own_w hw 238 rfl) (own_w hw 237 rfl) (own_w hw 239 rfl) (own_w hw 19 rfl) (by decide) hml rfl E_t e11_4 (hb hby d11_28) rfl rfl (lenOf pd11_2 rfl) (W := 0) rfl (by decide) (by decide) (c' := 0) (s' := 0) rfl rfl (by decide) (by decide) ?_
  rintro _ T11_5 L11_5 X11_5 ⟨rfl, N11_5q, e11_5⟩
  have N11_5 := Fr.app N11_4 N11_5q
  refine own_fw (fun _ => ox_ifNo X11_5.here hx (hb hby d11_31) rfl ((if0 _ _).trans (feq (by decide : ¬ ((1 : Int32) = (0 : Int32)))).1)) ?_
  refine own_fw (fun _ => ox_iconst X11_5.here hx (hb hby d11_34)) ?_
  refine own_fw (fun _ => ox_goto X11_5.here hx (pc0 := 35) (pc' := 39) rfl (hb hby d11_35) (by decide) (by decide)) ?_
  exact own_leaf X11_5 (v := some (.int (nar .boolean (1 : Int32)))) (own_ret Bd.returns) (BodyLoose.notSynchronized Bd) e11_5 (⟨rfl, N11_5, rfl⟩) (by decide) (by decide) (fun fs hr => retN X11_5 hx (t := .boolean) Bd.returns (by simp) (hb hby d11_39) hr)
theorem rmKP_0 (l : Launch) (Z : State) (a0 : Array Value) (hw : ∀ d ∈ tables_1, d.before a0 Z = true) (ws : List Jvm.Cond) (r0 : Addr) (p2 : Int32) (na : Addr) (ta : Addr) (kn : ClassId) (kt : ClassId) (va : Int32) (a : Int32) (b : Int32) (tt : Addr) (v1 : Value) (sz : Int32) (h0 : Heap) (n0 : Nat) (Z0 : n0 ≤ h0.size) (P_0 : OwnPG Z h0 r0 na ta kn kt sz va a b (.ref tt) v1) (E_t : Exa Z h0 tt "java/lang/String") (hlt : (0 : Int32) < p2) : OwnC l Z mN11 (Jvm.Cond.code mN11 method_4_code 5 (some .boolean) :: ws) ({ frames := 1, cells := 0, slots := 0, locals := 14 } : Room) #[(.ref r0), (.int (0 : Int32)), (.int p2), (.int a), (.ref tt)] h0 (Q40 Z (1 : Int32) h0 n0) := by
  refine own_body (plainFor_of_name pn40) (fun m => ef40 m r0 (0 : Int32) p2 a tt) ?_
  intro p e s m below meth c s₁ Bd hZ hml hown e0 hx hby hnm X0
  have N0 := Fr.nil n0
  obtain ⟨Epp, Fnp, Ftp, Fsp, Fvp, Vnp, Vtp, Enp, Etp, Ovp, ntp⟩ := P_0
  refine own_fw (fun _ => ox_iloadN X0.here hx (hb hby d40_0) rfl) ?_
  refine own_fw (fun _ => ox_iloadN X0.here hx (hb hby d40_1) rfl) ?_
  refine own_fw (fun _ => ox_icmpNo X0.here hx (hb hby d40_2) rfl (tlt hlt).2.1) ?_
  refine own_fw (fun _ => ox_aloadN X0.here hx (hb hby d40_5) rfl rfl) ?_
  refine own_fw (fun _ => ox_iloadN X0.here hx (hb hby d40_6) rfl) ?_
  refine own_vc X0 hx hZ hown (rmNO_0 l Z a0 hw [] r0 na kn a b h0 n0 Z0 Fnp Vnp) (own_w hw 225 rfl) (own_w hw 226 rfl) (own_w hw 228 rfl) (own_w hw 227 rfl) (own_w hw 229 rfl) (own_w hw 2 rfl) (by decide) hml rfl Epp e0 (hb hby d40_7) rfl rfl (lenOf pd40_0 rfl) (W := 0) rfl (by decide) (by decide) (c' := 0) (s' := 0) rfl rfl (by decide) (by decide) ?_
  rintro _ T40_1 L40_1 X40_1 ⟨rfl, N40_1q, e40_1⟩
  have N40_1 := Fr.app N0 N40_1q
  refine own_fw (fun _ => ox_iloadN X40_1.here hx (hb hby d40_10) rfl) ?_
  refine own_fw (fun _ => ox_icmpNo X40_1.here hx (hb hby d40_11) rfl (teq (rfl : a = a)).2) ?_
  refine own_fw (fun _ => ox_aloadN X40_1.here hx (hb hby d40_14) rfl rfl) ?_
  refine own_fw (fun _ => ox_iloadN X40_1.here hx (hb hby d40_15) rfl) ?_
  refine own_vc X40_1 hx hZ hown (rmTE_0 l Z a0 hw [] r0 ta kt tt v1 h0 n0 Z0 Ftp Vtp) (own_w hw 230 rfl) (own_w hw 231 rfl) (own_w hw 233 rfl) (own_w hw 232 rfl) (own_w hw 234 rfl) (own_w hw 2 rfl) (by decide) hml rfl Epp e40_1 (hb hby d40_16) rfl rfl (lenOf pd40_1 rfl) (W := 0) rfl (by decide) (by decide) (c' := 0) (s' := 0) rfl rfl (by decide) (by decide) ?_
  rintro _ T40_2 L40_2 X40_2 ⟨rfl, N40_2q, e40_2⟩
  have N40_2 := Fr.app N40_1 N40_2q
  refine own_fw (fun _ => ox_aload X40_2.here hx (hb hby d40_19) rfl rfl) ?_
  refine own_vc X40_2 hx hZ hown (rm44 l Z a0 hw [] tt h0 n0 Z0 ) (own_w hw 235 rfl) (own_w hw 236 rfl) (own_w hw 238 rfl) (own_w hw 237 rfl) (own_w hw 239 rfl) (own_w hw 19 rfl) (by decide) hml rfl E_t e40_2 (hb hby d40_21) rfl rfl (lenOf pd40_2 rfl) (W := 0) rfl (by decide) (by decide) (c' := 0) (s' := 0) rfl rfl (by decide) (by decide) ?_
  rintro _ T40_3 L40_3 X40_3 ⟨rfl, N40_3q, e40_3⟩
  have N40_3 := Fr.app N40_2 N40_3q
  refine own_fw (fun _ => ox_ifNo X40_3.here hx (hb hby d40_24) rfl ((if0 _ _).trans (feq (by decide : ¬ ((1 : Int32) = (0 : Int32)))).1)) ?_
  refine own_fw (fun _ => ox_iconst X40_3.here hx (hb hby d40_27)) ?_
  refine own_fw (fun _ => ox_goto X40_3.here hx (pc0 := 28) (pc' := 32) rfl (hb hby d40_28) (by decide) (by decide)) ?_
  exact own_leaf X40_3 (v := some (.int (nar .boolean (1 : Int32)))) (own_ret Bd.returns) (BodyLoose.notSynchronized Bd) e40_3 (⟨rfl, N40_3, rfl⟩) (by decide) (by decide) (fun fs hr => retN X40_3 hx (t := .boolean) Bd.returns (by simp) (hb hby d40_32) hr)
theorem rmSM_1 (l : Launch) (Z : State) (a0 : Array Value) (hw : ∀ d ∈ tables_1, d.before a0 Z = true) (ws : List Jvm.Cond) (r0 : Addr) (r1 : Addr) (p3 : Int32) (na : Addr) (ta : Addr) (kn : ClassId) (kt : ClassId) (nb : Addr) (tb : Addr) (kn2 : ClassId) (kt2 : ClassId) (va : Int32) (vr : Int32) (a : Int32) (b : Int32) (tt : Addr) (v0 : Value) (sz : Int32) (h0 : Heap) (n0 : Nat) (Z0 : n0 ≤ h0.size) (P_0 : OwnPG Z h0 r0 na ta kn kt sz va a b v0 (.ref tt)) (P_1 : OwnPG Z h0 r1 nb tb kn2 kt2 sz vr a b v0 (.ref tt)) (E_t : Exa Z h0 tt "java/lang/String") (hlt : (1 : Int32) < p3) : OwnC l Z mN10 (Jvm.Cond.code mN10 method_3_code 4 (some .boolean) :: ws) ({ frames := 1, cells := 0, slots := 0, locals := 14 } : Room) #[(.ref r0), (.ref r1), (.int (1 : Int32)), (.int p3)] h0 (Q11 Z (1 : Int32) h0 n0) := by
  refine own_body (plainFor_of_name pn11) (fun m => ef11 m r0 r1 (1 : Int32) p3) ?_
  intro p e s m below meth c s₁ Bd hZ hml hown e0 hx hby hnm X0
  have N0 := Fr.nil n0
  obtain ⟨Epp, Fnp, Ftp, Fsp, Fvp, Vnp, Vtp, Enp, Etp, Ovp, ntp⟩ := P_0
  obtain ⟨Epq, Fnq, Ftq, Fsq, Fvq, Vnq, Vtq, Enq, Etq, Ovq, ntq⟩ := P_1
  refine own_fw (fun _ => ox_iloadN X0.here hx (hb hby d11_0) rfl) ?_
  refine own_fw (fun _ => ox_iloadN X0.here hx (hb hby d11_1) rfl) ?_
  refine own_fw (fun _ => ox_icmpNo X0.here hx (hb hby d11_2) rfl (tlt hlt).2.1) ?_
  refine own_fw (fun _ => ox_aloadN X0.here hx (hb hby d11_5) rfl rfl) ?_
  refine own_fw (fun _ => ox_iloadN X0.here hx (hb hby d11_6) rfl) ?_
  refine own_vc X0 hx hZ hown (rmNO_1 l Z a0 hw [] r0 na kn a b h0 n0 Z0 Fnp Vnp) (own_w hw 225 rfl) (own_w hw 226 rfl) (own_w hw 228 rfl) (own_w hw 227 rfl) (own_w hw 229 rfl) (own_w hw 2 rfl) (by decide) hml rfl Epp e0 (hb hby d11_7) rfl rfl (lenOf pd11_0 rfl) (W := 0) rfl (by decide) (by decide) (c' := 0) (s' := 0) rfl rfl (by decide) (by decide) ?_
  rintro _ T11_1 L11_1 X11_1 ⟨rfl, N11_1q, e11_1⟩
  have N11_1 := Fr.app N0 N11_1q
  refine own_fw (fun _ => ox_aloadN X11_1.here hx (hb hby d11_10) rfl rfl) ?_
  refine own_fw (fun _ => ox_iloadN X11_1.here hx (hb hby d11_11) rfl) ?_
  refine own_vc X11_1 hx hZ hown (rmNO_1 l Z a0 hw [] r1 nb kn2 a b h0 n0 Z0 Fnq Vnq) (own_w hw 225 rfl) (own_w hw 226 rfl) (own_w hw 228 rfl) (own_w hw 227 rfl) (own_w hw 229 rfl) (own_w hw 2 rfl) (by decide) hml rfl Epq e11_1 (hb hby d11_12) rfl rfl (lenOf pd11_0 rfl) (W := 1) rfl (by decide) (by decide) (c' := 0) (s' := 0) rfl rfl (by decide) (by decide) ?_
  rintro _ T11_2 L11_2 X11_2 ⟨rfl, N11_2q, e11_2⟩
  have N11_2 := Fr.app N11_1 N11_2q
  refine own_fw (fun _ => ox_icmpNo X11_2.here hx (hb hby d11_15) rfl (teq (rfl : b = b)).2) ?_
  refine own_fw (fun _ => ox_aloadN X11_2.here hx (hb hby d11_18) rfl rfl) ?_
  refine own_fw (fun _ => ox_iloadN X11_2.here hx (hb hby d11_19) rfl) ?_
  refine own_vc X11_2 hx hZ hown (rmTE_1 l Z a0 hw [] r0 ta kt tt v0 h0 n0 Z0 Ftp Vtp) (own_w hw 230 rfl) (own_w hw 231 rfl) (own_w hw 233 rfl) (own_w hw 232 rfl) (own_w hw 234 rfl) (own_w hw 2 rfl) (by decide) hml rfl Epp e11_2 (hb hby d11_20) rfl rfl (lenOf pd11_1 rfl) (W := 0) rfl (by decide) (by decide) (c' := 0) (s' := 0) rfl rfl (by decide) (by decide) ?_
  rintro _ T11_3 L11_3 X11_3 ⟨rfl, N11_3q, e11_3⟩
  have N11_3 := Fr.app N11_2 N11_3q
  refine own_fw (fun _ => ox_aloadN X11_3.here hx (hb hby d11_23) rfl rfl) ?_
  refine own_fw (fun _ => ox_iloadN X11_3.here hx (hb hby d11_24) rfl) ?_
  refine own_vc X11_3 hx hZ hown (rmTE_1 l Z a0 hw [] r1 tb kt2 tt v0 h0 n0 Z0 Ftq Vtq) (own_w hw 230 rfl) (own_w hw 231 rfl) (own_w hw 233 rfl) (own_w hw 232 rfl) (own_w hw 234 rfl) (own_w hw 2 rfl) (by decide) hml rfl Epq e11_3 (hb hby d11_25) rfl rfl (lenOf pd11_1 rfl) (W := 1) rfl (by decide) (by decide) (c' := 0) (s' := 0) rfl rfl (by decide) (by decide) ?_
  rintro _ T11_4 L11_4 X11_4 ⟨rfl, N11_4q, e11_4⟩
  have N11_4 := Fr.app N11_3 N11_4q
  refine own_vc X11_4 hx hZ hown (rm44 l Z a0 hw [] tt h0 n0 Z0 ) (own_w hw 235 rfl) (own_w hw 236 rfl) (own_w hw 238 rfl) (own_w hw 237 rfl) (own_w hw 239 rfl) (own_w hw 19 rfl) (by decide) hml rfl E_t e11_4 (hb hby d11_28) rfl rfl (lenOf pd11_2 rfl) (W := 0) rfl (by decide) (by decide) (c' := 0) (s' := 0) rfl rfl (by decide) (by decide) ?_
  rintro _ T11_5 L11_5 X11_5 ⟨rfl, N11_5q, e11_5⟩
  have N11_5 := Fr.app N11_4 N11_5q
  refine own_fw (fun _ => ox_ifNo X11_5.here hx (hb hby d11_31) rfl ((if0 _ _).trans (feq (by decide : ¬ ((1 : Int32) = (0 : Int32)))).1)) ?_
  refine own_fw (fun _ => ox_iconst X11_5.here hx (hb hby d11_34)) ?_
  refine own_fw (fun _ => ox_goto X11_5.here hx (pc0 := 35) (pc' := 39) rfl (hb hby d11_35) (by decide) (by decide)) ?_
  exact own_leaf X11_5 (v := some (.int (nar .boolean (1 : Int32)))) (own_ret Bd.returns) (BodyLoose.notSynchronized Bd) e11_5 (⟨rfl, N11_5, rfl⟩) (by decide) (by decide) (fun fs hr => retN X11_5 hx (t := .boolean) Bd.returns (by simp) (hb hby d11_39) hr)
theorem rmKP_1 (l : Launch) (Z : State) (a0 : Array Value) (hw : ∀ d ∈ tables_1, d.before a0 Z = true) (ws : List Jvm.Cond) (r0 : Addr) (p2 : Int32) (na : Addr) (ta : Addr) (kn : ClassId) (kt : ClassId) (va : Int32) (a : Int32) (b : Int32) (tt : Addr) (v0 : Value) (sz : Int32) (h0 : Heap) (n0 : Nat) (Z0 : n0 ≤ h0.size) (P_0 : OwnPG Z h0 r0 na ta kn kt sz va a b v0 (.ref tt)) (E_t : Exa Z h0 tt "java/lang/String") (hlt : (1 : Int32) < p2) : OwnC l Z mN11 (Jvm.Cond.code mN11 method_4_code 5 (some .boolean) :: ws) ({ frames := 1, cells := 0, slots := 0, locals := 14 } : Room) #[(.ref r0), (.int (1 : Int32)), (.int p2), (.int b), (.ref tt)] h0 (Q40 Z (1 : Int32) h0 n0) := by
  refine own_body (plainFor_of_name pn40) (fun m => ef40 m r0 (1 : Int32) p2 b tt) ?_
  intro p e s m below meth c s₁ Bd hZ hml hown e0 hx hby hnm X0
  have N0 := Fr.nil n0
  obtain ⟨Epp, Fnp, Ftp, Fsp, Fvp, Vnp, Vtp, Enp, Etp, Ovp, ntp⟩ := P_0
  refine own_fw (fun _ => ox_iloadN X0.here hx (hb hby d40_0) rfl) ?_
  refine own_fw (fun _ => ox_iloadN X0.here hx (hb hby d40_1) rfl) ?_
  refine own_fw (fun _ => ox_icmpNo X0.here hx (hb hby d40_2) rfl (tlt hlt).2.1) ?_
  refine own_fw (fun _ => ox_aloadN X0.here hx (hb hby d40_5) rfl rfl) ?_
  refine own_fw (fun _ => ox_iloadN X0.here hx (hb hby d40_6) rfl) ?_
  refine own_vc X0 hx hZ hown (rmNO_1 l Z a0 hw [] r0 na kn a b h0 n0 Z0 Fnp Vnp) (own_w hw 225 rfl) (own_w hw 226 rfl) (own_w hw 228 rfl) (own_w hw 227 rfl) (own_w hw 229 rfl) (own_w hw 2 rfl) (by decide) hml rfl Epp e0 (hb hby d40_7) rfl rfl (lenOf pd40_0 rfl) (W := 0) rfl (by decide) (by decide) (c' := 0) (s' := 0) rfl rfl (by decide) (by decide) ?_
  rintro _ T40_1 L40_1 X40_1 ⟨rfl, N40_1q, e40_1⟩
  have N40_1 := Fr.app N0 N40_1q
  refine own_fw (fun _ => ox_iloadN X40_1.here hx (hb hby d40_10) rfl) ?_
  refine own_fw (fun _ => ox_icmpNo X40_1.here hx (hb hby d40_11) rfl (teq (rfl : b = b)).2) ?_
  refine own_fw (fun _ => ox_aloadN X40_1.here hx (hb hby d40_14) rfl rfl) ?_
  refine own_fw (fun _ => ox_iloadN X40_1.here hx (hb hby d40_15) rfl) ?_
  refine own_vc X40_1 hx hZ hown (rmTE_1 l Z a0 hw [] r0 ta kt tt v0 h0 n0 Z0 Ftp Vtp) (own_w hw 230 rfl) (own_w hw 231 rfl) (own_w hw 233 rfl) (own_w hw 232 rfl) (own_w hw 234 rfl) (own_w hw 2 rfl) (by decide) hml rfl Epp e40_1 (hb hby d40_16) rfl rfl (lenOf pd40_1 rfl) (W := 0) rfl (by decide) (by decide) (c' := 0) (s' := 0) rfl rfl (by decide) (by decide) ?_
  rintro _ T40_2 L40_2 X40_2 ⟨rfl, N40_2q, e40_2⟩
  have N40_2 := Fr.app N40_1 N40_2q
  refine own_fw (fun _ => ox_aload X40_2.here hx (hb hby d40_19) rfl rfl) ?_
  refine own_vc X40_2 hx hZ hown (rm44 l Z a0 hw [] tt h0 n0 Z0 ) (own_w hw 235 rfl) (own_w hw 236 rfl) (own_w hw 238 rfl) (own_w hw 237 rfl) (own_w hw 239 rfl) (own_w hw 19 rfl) (by decide) hml rfl E_t e40_2 (hb hby d40_21) rfl rfl (lenOf pd40_2 rfl) (W := 0) rfl (by decide) (by decide) (c' := 0) (s' := 0) rfl rfl (by decide) (by decide) ?_
  rintro _ T40_3 L40_3 X40_3 ⟨rfl, N40_3q, e40_3⟩
  have N40_3 := Fr.app N40_2 N40_3q
  refine own_fw (fun _ => ox_ifNo X40_3.here hx (hb hby d40_24) rfl ((if0 _ _).trans (feq (by decide : ¬ ((1 : Int32) = (0 : Int32)))).1)) ?_
  refine own_fw (fun _ => ox_iconst X40_3.here hx (hb hby d40_27)) ?_
  refine own_fw (fun _ => ox_goto X40_3.here hx (pc0 := 28) (pc' := 32) rfl (hb hby d40_28) (by decide) (by decide)) ?_
  exact own_leaf X40_3 (v := some (.int (nar .boolean (1 : Int32)))) (own_ret Bd.returns) (BodyLoose.notSynchronized Bd) e40_3 (⟨rfl, N40_3, rfl⟩) (by decide) (by decide) (fun fs hr => retN X40_3 hx (t := .boolean) Bd.returns (by simp) (hb hby d40_32) hr)
theorem own_and1023 (x : Int32) : ∃ k : Fin 1024, x &&& 1023 = Int32.ofNat k.val := by
  refine ⟨⟨x.toBitVec.toNat % 1024, Nat.mod_lt _ (by decide)⟩, ?_⟩
  apply Int32.toBitVec_inj.mp
  apply BitVec.eq_of_toNat_eq
  have e : (Int32.ofNat (x.toBitVec.toNat % 1024)).toBitVec = BitVec.ofNat 32 (x.toBitVec.toNat % 1024) := rfl
  rw [e, Int32.toBitVec_and, BitVec.toNat_and]
  show x.toBitVec.toNat &&& (2 ^ 10 - 1) = _
  rw [Nat.and_two_pow_sub_one_eq_mod, BitVec.toNat_ofNat]
  omega
theorem own_L0 (p0 : Int32) : own_dig (nar .char (((48 : Int32) + ((own_irem (p0 &&& (1023 : Int32)) (1000 : Int32)) / (100 : Int32))).toUInt32.toUInt16.toUInt32.toInt32)) := by
  obtain ⟨k, e⟩ := own_and1023 p0
  rw [e]
  exact ⟨⟨(k.val % 1000) / 100, by omega⟩, (by decide +kernel : ∀ k : Fin 1024, (nar .char (((48 : Int32) + ((own_irem (Int32.ofNat k.val) (1000 : Int32)) / (100 : Int32))).toUInt32.toUInt16.toUInt32.toInt32)) = Int32.ofNat (48 + (k.val % 1000) / 100)) k⟩
theorem own_L1 (p0 : Int32) : own_dig (nar .char (((48 : Int32) + (own_irem ((own_irem (p0 &&& (1023 : Int32)) (1000 : Int32)) / (10 : Int32)) (10 : Int32))).toUInt32.toUInt16.toUInt32.toInt32)) := by
  obtain ⟨k, e⟩ := own_and1023 p0
  rw [e]
  exact ⟨⟨(k.val % 1000) / 10 % 10, by omega⟩, (by decide +kernel : ∀ k : Fin 1024, (nar .char (((48 : Int32) + (own_irem ((own_irem (Int32.ofNat k.val) (1000 : Int32)) / (10 : Int32)) (10 : Int32))).toUInt32.toUInt16.toUInt32.toInt32)) = Int32.ofNat (48 + (k.val % 1000) / 10 % 10)) k⟩
theorem own_L2 (p0 : Int32) : own_dig (nar .char (((48 : Int32) + (own_irem (own_irem (p0 &&& (1023 : Int32)) (1000 : Int32)) (10 : Int32))).toUInt32.toUInt16.toUInt32.toInt32)) := by
  obtain ⟨k, e⟩ := own_and1023 p0
  rw [e]
  exact ⟨⟨k.val % 1000 % 10, by omega⟩, (by decide +kernel : ∀ k : Fin 1024, (nar .char (((48 : Int32) + (own_irem (own_irem (Int32.ofNat k.val) (1000 : Int32)) (10 : Int32))).toUInt32.toUInt16.toUInt32.toInt32)) = Int32.ofNat (48 + k.val % 1000 % 10)) k⟩
theorem own_L4 (p0 : Int32) : own_let (nar .char (((65 : Int32) + (own_irem ((p0.toUInt32 >>> ((10 : Int32) &&& 31).toUInt32).toInt32) (25 : Int32))).toUInt32.toUInt16.toUInt32.toInt32)) := by
  have h1 := c_iushr p0 10 10 (by decide) (by decide)
  have h2 := (c_irem ((p0.toUInt32 >>> ((10 : Int32) &&& 31).toUInt32).toInt32) 25 25 rfl).1 (by omega)
  rw [← Jvm.irem_eq_mod] at h2
  change (own_irem ((p0.toUInt32 >>> ((10 : Int32) &&& 31).toUInt32).toInt32) (25 : Int32)).toInt = _ at h2
  have e : own_irem ((p0.toUInt32 >>> ((10 : Int32) &&& 31).toUInt32).toInt32) (25 : Int32) = Int32.ofNat (own_irem ((p0.toUInt32 >>> ((10 : Int32) &&& 31).toUInt32).toInt32) (25 : Int32)).toInt.toNat := by
    apply Int32.toInt_inj.mp
    rw [Int32.toInt_ofNat_small (by omega)]
    omega
  have hk : (own_irem ((p0.toUInt32 >>> ((10 : Int32) &&& 31).toUInt32).toInt32) (25 : Int32)).toInt.toNat < 25 := by omega
  rw [e]
  generalize (own_irem ((p0.toUInt32 >>> ((10 : Int32) &&& 31).toUInt32).toInt32) (25 : Int32)).toInt.toNat = n at hk
  exact ⟨⟨n, hk⟩, (by decide +kernel : ∀ k : Fin 25, (nar .char (((65 : Int32) + (Int32.ofNat k.val)).toUInt32.toUInt16.toUInt32.toInt32)) = Int32.ofNat (65 + k.val)) ⟨n, hk⟩⟩
theorem own_dle {x : Int32} (h : own_asc x) : ¬ (255 : Int32) < x := by
  obtain ⟨k, rfl⟩ := h
  exact (by decide +kernel : ∀ k : Fin 128, ¬ (255 : Int32) < Int32.ofNat k.val) k
theorem own_dby {x : Int32} (h : own_asc x) : nar .byte (x.toInt8.toInt32) = x := by
  obtain ⟨k, rfl⟩ := h
  exact (by decide +kernel : ∀ k : Fin 128, nar .byte ((Int32.ofNat k.val).toInt8.toInt32) = Int32.ofNat k.val) k
theorem own_arvc {Z : State} {h : Heap} {a : Addr} {k : ClassId} {ty : FieldType} {n : Int32} {vs vs' : List Value} {d : Value} (V : Arv Z h a k ty n vs d) (e : vs = vs') : Arv Z h a k ty n vs' d := e ▸ V
theorem own_a32c : own_asc (nar .char (32 : Int32)) := ⟨⟨32, by decide⟩, by decide⟩
theorem own_48 : own_asc (nar .char (48 : Int32)) := ⟨⟨48, by decide⟩, by decide⟩
theorem own_90 : own_asc (nar .char (90 : Int32)) := ⟨⟨90, by decide⟩, by decide⟩
theorem d41_0 : decode method_2_code 0 = .ok (.iload_n 0, 1) := by decide +kernel
theorem d41_1 : decode method_2_code 1 = .ok (.sipush 1023, 3) := by decide +kernel
theorem d41_4 : decode method_2_code 4 = .ok (.iand, 1) := by decide +kernel
theorem d41_5 : decode method_2_code 5 = .ok (.sipush 1000, 3) := by decide +kernel
theorem d41_8 : decode method_2_code 8 = .ok (.irem, 1) := by decide +kernel
theorem d41_9 : decode method_2_code 9 = .ok (.istore_n 1, 1) := by decide +kernel
theorem d41_10 : decode method_2_code 10 = .ok (.iconst 5, 1) := by decide +kernel
theorem d41_11 : decode method_2_code 11 = .ok (.newarray .char, 2) := by decide +kernel
theorem d41_13 : decode method_2_code 13 = .ok (.astore_n 2, 1) := by decide +kernel
theorem d41_14 : decode method_2_code 14 = .ok (.aload_n 2, 1) := by decide +kernel
theorem d41_15 : decode method_2_code 15 = .ok (.iconst 0, 1) := by decide +kernel
theorem d41_16 : decode method_2_code 16 = .ok (.bipush 48, 2) := by decide +kernel
theorem d41_18 : decode method_2_code 18 = .ok (.iload_n 1, 1) := by decide +kernel
theorem d41_19 : decode method_2_code 19 = .ok (.bipush 100, 2) := by decide +kernel
theorem d41_21 : decode method_2_code 21 = .ok (.idiv, 1) := by decide +kernel
theorem d41_22 : decode method_2_code 22 = .ok (.iadd, 1) := by decide +kernel
theorem d41_23 : decode method_2_code 23 = .ok (.i2c, 1) := by decide +kernel
theorem d41_24 : decode method_2_code 24 = .ok (.castore, 1) := by decide +kernel
theorem d41_25 : decode method_2_code 25 = .ok (.aload_n 2, 1) := by decide +kernel
theorem d41_26 : decode method_2_code 26 = .ok (.iconst 1, 1) := by decide +kernel
theorem d41_27 : decode method_2_code 27 = .ok (.bipush 48, 2) := by decide +kernel
theorem d41_29 : decode method_2_code 29 = .ok (.iload_n 1, 1) := by decide +kernel
theorem d41_30 : decode method_2_code 30 = .ok (.bipush 10, 2) := by decide +kernel
theorem d41_32 : decode method_2_code 32 = .ok (.idiv, 1) := by decide +kernel
theorem d41_33 : decode method_2_code 33 = .ok (.bipush 10, 2) := by decide +kernel
theorem d41_35 : decode method_2_code 35 = .ok (.irem, 1) := by decide +kernel
theorem d41_36 : decode method_2_code 36 = .ok (.iadd, 1) := by decide +kernel
theorem d41_37 : decode method_2_code 37 = .ok (.i2c, 1) := by decide +kernel
theorem d41_38 : decode method_2_code 38 = .ok (.castore, 1) := by decide +kernel
theorem d41_39 : decode method_2_code 39 = .ok (.aload_n 2, 1) := by decide +kernel
theorem d41_40 : decode method_2_code 40 = .ok (.iconst 2, 1) := by decide +kernel
theorem d41_41 : decode method_2_code 41 = .ok (.bipush 48, 2) := by decide +kernel
theorem d41_43 : decode method_2_code 43 = .ok (.iload_n 1, 1) := by decide +kernel
theorem d41_44 : decode method_2_code 44 = .ok (.bipush 10, 2) := by decide +kernel
theorem d41_46 : decode method_2_code 46 = .ok (.irem, 1) := by decide +kernel
theorem d41_47 : decode method_2_code 47 = .ok (.iadd, 1) := by decide +kernel
theorem d41_48 : decode method_2_code 48 = .ok (.i2c, 1) := by decide +kernel
theorem d41_49 : decode method_2_code 49 = .ok (.castore, 1) := by decide +kernel
theorem d41_50 : decode method_2_code 50 = .ok (.aload_n 2, 1) := by decide +kernel
theorem d41_51 : decode method_2_code 51 = .ok (.iconst 3, 1) := by decide +kernel
theorem d41_52 : decode method_2_code 52 = .ok (.bipush 32, 2) := by decide +kernel
theorem d41_54 : decode method_2_code 54 = .ok (.castore, 1) := by decide +kernel
theorem d41_55 : decode method_2_code 55 = .ok (.aload_n 2, 1) := by decide +kernel
theorem d41_56 : decode method_2_code 56 = .ok (.iconst 4, 1) := by decide +kernel
theorem d41_57 : decode method_2_code 57 = .ok (.bipush 65, 2) := by decide +kernel
theorem d41_59 : decode method_2_code 59 = .ok (.iload_n 0, 1) := by decide +kernel
theorem d41_60 : decode method_2_code 60 = .ok (.bipush 10, 2) := by decide +kernel
theorem d41_62 : decode method_2_code 62 = .ok (.iushr, 1) := by decide +kernel
theorem d41_63 : decode method_2_code 63 = .ok (.bipush 25, 2) := by decide +kernel
theorem d41_65 : decode method_2_code 65 = .ok (.irem, 1) := by decide +kernel
theorem d41_66 : decode method_2_code 66 = .ok (.iadd, 1) := by decide +kernel
theorem d41_67 : decode method_2_code 67 = .ok (.i2c, 1) := by decide +kernel
theorem d41_68 : decode method_2_code 68 = .ok (.castore, 1) := by decide +kernel
theorem d41_69 : decode method_2_code 69 = .ok (.new 7, 3) := by decide +kernel
theorem d41_72 : decode method_2_code 72 = .ok (.dup, 1) := by decide +kernel
theorem d41_73 : decode method_2_code 73 = .ok (.aload_n 2, 1) := by decide +kernel
theorem d41_74 : decode method_2_code 74 = .ok (.invokespecial 9, 3) := by decide +kernel
theorem d41_77 : decode method_2_code 77 = .ok (.areturn, 1) := by decide +kernel
theorem pn41 : plainName "com/example/copperline/copperline/ProgramReplaceWithPinLaw" = true := by first | (simp [plainName, overriddenIn]; done) | decide +kernel
theorem pd41_0 : parseMethodDescriptor "([C)V" = some ⟨[(.array .char)], none⟩ := by decide +kernel
theorem ef41 (m : MethodId) (p0 : Int32) : entryFrame m #[(.int p0)] 3 = mkF m 0 #[.val (.int p0), .unset, .unset] [] := by first | (simp [entryFrame, mkF, argsToLocals, Value.category]; done) | rfl
def Q41 (Z : State)  (h0 : Heap) (n0 : Nat) (w : Option Value) (h : Heap) (L : List Loc) : Prop := ∃ r vb k x0 x1 x2 x4, w = some (.ref r) ∧ Fr n0 L ∧ Keep h0 h [] ∧ Exa Z h r "java/lang/String" ∧ Fld Z h r "java/lang/String" "value" "[B" (.ref vb) ∧ Fld Z h r "java/lang/String" "coder" "B" (.int 0) ∧ Arv Z h vb k .byte (5 : Int32) [(.int x0), (.int x1), (.int x2), (.int (32 : Int32)), (.int x4)] (.int 0) ∧ own_dig x0 ∧ own_dig x1 ∧ own_dig x2 ∧ own_let x4 ∧ h0.size ≤ r ∧ h0.size ≤ vb
theorem rm41 (l : Launch) (Z : State) (a0 : Array Value) (hw : ∀ d ∈ tables_1, d.before a0 Z = true) (ws : List Jvm.Cond) (p0 : Int32) (cc : Int32) (fv : Value) (ra : Addr) (h0 : Heap) (n0 : Nat) (Z0 : n0 ≤ h0.size) (OO : OwnOld Z n0 h0 cc fv ra) : OwnC l Z (⟨"com/example/copperline/copperline/ProgramReplaceWithPinLaw", "line", "(I)Ljava/lang/String;"⟩ : MethodName) (Jvm.Cond.code (⟨"com/example/copperline/copperline/ProgramReplaceWithPinLaw", "line", "(I)Ljava/lang/String;"⟩ : MethodName) method_2_code 3 (some (.object "java/lang/String")) :: ws) ({ frames := 4, cells := 3, slots := 14, locals := 66 } : Room) #[(.int p0)] h0 (Q41 Z  h0 n0) := by
  refine own_body (plainFor_of_name pn41) (fun m => ef41 m p0) ?_
  intro p e s m below meth c s₁ Bd hZ hml hown e0 hx hby hnm X0
  have N0 := Fr.nil n0
  obtain ⟨O_0, S_c, hcc, S_f, hfv, S_r⟩ := OO
  refine own_fw (fun _ => ox_iloadN X0.here hx (hb hby d41_0) rfl) ?_
  refine own_fw (fun _ => ox_sipush X0.here hx (hb hby d41_1)) ?_
  refine own_fw (fun _ => ox_iand X0.here hx (hb hby d41_4) rfl) ?_
  refine own_fw (fun _ => ox_sipush X0.here hx (hb hby d41_5)) ?_
  refine own_fw (fun _ => ox_irem X0.here hx (hb hby d41_8) rfl (by decide)) ?_
  refine own_fw (fun _ => ox_istoreN X0.here hx (hb hby d41_9) rfl (l' := #[.val (.int p0), .val (.int (own_irem (p0 &&& (1023 : Int32)) (1000 : Int32))), .unset]) rfl) ?_
  refine own_fw (fun _ => ox_iconst X0.here hx (hb hby d41_10)) ?_
  obtain ⟨T41_1, h41_1, k41_1, X41_1, e41_1, E41_1, A41_1, st41_1⟩ := newP X0 hx hZ (own_w hw 16 rfl) e0 (g := (mkF m 11 #[.val (.int p0), .val (.int (own_irem (p0 &&& (1023 : Int32)) (1000 : Int32))), .unset] [(.int (5 : Int32))])) rfl (hb hby d41_11) rfl (by decide) (cap := 5) (by decide) (by decide) (by decide) (by decide)
  obtain ⟨b41_1, g41_1⟩ : ∃ z, z = h0.size := ⟨_, rfl⟩
  rw [← g41_1] at A41_1 st41_1
  have g_b41_1 : n0 ≤ b41_1 := Nat.le_trans Z0 (Nat.le_of_eq g41_1.symm)
  have sz_b41_1 : h0.size ≤ b41_1 := Nat.le_trans (Keep.refl h0 []).1 (Nat.le_of_eq g41_1.symm)
  have V_b41_1 : Arv Z h41_1 b41_1 k41_1 .char (5 : Int32) [(.int (0 : Int32)), (.int (0 : Int32)), (.int (0 : Int32)), (.int (0 : Int32)), (.int (0 : Int32))] (.int (0 : Int32)) := (Arv.new A41_1 (by decide)).pad (pad_rep [] (.int (0 : Int32)) 5)
  refine own_fw (A := T41_1.setTop (mkF m 13 #[.val (.int p0), .val (.int (own_irem (p0 &&& (1023 : Int32)) (1000 : Int32))), .unset] [(.ref b41_1)])) st41_1 ?_
  refine own_fw (fun _ => ox_astoreN X41_1.here hx (hb hby d41_13) rfl rfl (l' := #[.val (.int p0), .val (.int (own_irem (p0 &&& (1023 : Int32)) (1000 : Int32))), .val (.ref b41_1)]) rfl) ?_
  refine own_fw (fun _ => ox_aloadN X41_1.here hx (hb hby d41_14) rfl rfl) ?_
  refine own_fw (fun _ => ox_iconst X41_1.here hx (hb hby d41_15)) ?_
  refine own_fw (fun _ => ox_bipush X41_1.here hx (hb hby d41_16)) ?_
  refine own_fw (fun _ => ox_iloadN X41_1.here hx (hb hby d41_18) rfl) ?_
  refine own_fw (fun _ => ox_bipush X41_1.here hx (hb hby d41_19)) ?_
  refine own_fw (fun _ => ox_idiv X41_1.here hx (hb hby d41_21) rfl (by decide)) ?_
  refine own_fw (fun _ => ox_iadd X41_1.here hx (hb hby d41_22) rfl) ?_
  refine own_fw (fun _ => ox_i2c X41_1.here hx (hb hby d41_23) rfl) ?_
  obtain ⟨cl41_2, Ar41_2, q41_2, S41_2, Ng41_2, Hs41_2, G41_2⟩ := id V_b41_1
  have hin41_2 : ¬ ((0 : Int32) < 0 ∨ cl41_2.slots.size ≤ ((0 : Int32)).toNatClampNeg) := inb_of S41_2 ⟨by decide, by decide⟩
  obtain ⟨T41_2, h41_2, X41_2, e41_2, W41_2, st41_2⟩ := stC X41_1 hx hZ e41_1 Ar41_2 (j := (0 : Int32)) hin41_2 (g := (mkF m 24 #[.val (.int p0), .val (.int (own_irem (p0 &&& (1023 : Int32)) (1000 : Int32))), .val (.ref b41_1)] [(.int (((48 : Int32) + ((own_irem (p0 &&& (1023 : Int32)) (1000 : Int32)) / (100 : Int32))).toUInt32.toUInt16.toUInt32.toInt32)), (.int (0 : Int32)), (.ref b41_1)])) rfl rfl (hb hby d41_24)
  have V41_2 : Arv Z h41_2 b41_1 k41_1 .char (5 : Int32) [(.int (nar .char (((48 : Int32) + ((own_irem (p0 &&& (1023 : Int32)) (1000 : Int32)) / (100 : Int32))).toUInt32.toUInt16.toUInt32.toInt32))), (.int (0 : Int32)), (.int (0 : Int32)), (.int (0 : Int32)), (.int (0 : Int32))] (.int (0 : Int32)) := Arv.set Ar41_2 q41_2 S41_2 Ng41_2 Hs41_2 G41_2 (fits_nar_char _) W41_2 0 rfl (Nat.le_of_ble_eq_true rfl)
  have N41_2 := Fr.snoc X41_2 N0 g_b41_1
  refine own_fw (A := T41_2.setTop (mkF m 25 #[.val (.int p0), .val (.int (own_irem (p0 &&& (1023 : Int32)) (1000 : Int32))), .val (.ref b41_1)] [])) st41_2 ?_
  refine own_fw (fun _ => ox_aloadN X41_2.here hx (hb hby d41_25) rfl rfl) ?_
  refine own_fw (fun _ => ox_iconst X41_2.here hx (hb hby d41_26)) ?_
  refine own_fw (fun _ => ox_bipush X41_2.here hx (hb hby d41_27)) ?_
  refine own_fw (fun _ => ox_iloadN X41_2.here hx (hb hby d41_29) rfl) ?_
  refine own_fw (fun _ => ox_bipush X41_2.here hx (hb hby d41_30)) ?_
  refine own_fw (fun _ => ox_idiv X41_2.here hx (hb hby d41_32) rfl (by decide)) ?_
  refine own_fw (fun _ => ox_bipush X41_2.here hx (hb hby d41_33)) ?_
  refine own_fw (fun _ => ox_irem X41_2.here hx (hb hby d41_35) rfl (by decide)) ?_
  refine own_fw (fun _ => ox_iadd X41_2.here hx (hb hby d41_36) rfl) ?_
  refine own_fw (fun _ => ox_i2c X41_2.here hx (hb hby d41_37) rfl) ?_
  obtain ⟨cl41_3, Ar41_3, q41_3, S41_3, Ng41_3, Hs41_3, G41_3⟩ := id V41_2
  have hin41_3 : ¬ ((1 : Int32) < 0 ∨ cl41_3.slots.size ≤ ((1 : Int32)).toNatClampNeg) := inb_of S41_3 ⟨by decide, by decide⟩
  obtain ⟨T41_3, h41_3, X41_3, e41_3, W41_3, st41_3⟩ := stC X41_2 hx hZ e41_2 Ar41_3 (j := (1 : Int32)) hin41_3 (g := (mkF m 38 #[.val (.int p0), .val (.int (own_irem (p0 &&& (1023 : Int32)) (1000 : Int32))), .val (.ref b41_1)] [(.int (((48 : Int32) + (own_irem ((own_irem (p0 &&& (1023 : Int32)) (1000 : Int32)) / (10 : Int32)) (10 : Int32))).toUInt32.toUInt16.toUInt32.toInt32)), (.int (1 : Int32)), (.ref b41_1)])) rfl rfl (hb hby d41_38)
  have V41_3 : Arv Z h41_3 b41_1 k41_1 .char (5 : Int32) [(.int (nar .char (((48 : Int32) + ((own_irem (p0 &&& (1023 : Int32)) (1000 : Int32)) / (100 : Int32))).toUInt32.toUInt16.toUInt32.toInt32))), (.int (nar .char (((48 : Int32) + (own_irem ((own_irem (p0 &&& (1023 : Int32)) (1000 : Int32)) / (10 : Int32)) (10 : Int32))).toUInt32.toUInt16.toUInt32.toInt32))), (.int (0 : Int32)), (.int (0 : Int32)), (.int (0 : Int32))] (.int (0 : Int32)) := Arv.set Ar41_3 q41_3 S41_3 Ng41_3 Hs41_3 G41_3 (fits_nar_char _) W41_3 1 rfl (Nat.le_of_ble_eq_true rfl)
  have N41_3 := Fr.snoc X41_3 N41_2 g_b41_1
  refine own_fw (A := T41_3.setTop (mkF m 39 #[.val (.int p0), .val (.int (own_irem (p0 &&& (1023 : Int32)) (1000 : Int32))), .val (.ref b41_1)] [])) st41_3 ?_
  refine own_fw (fun _ => ox_aloadN X41_3.here hx (hb hby d41_39) rfl rfl) ?_
  refine own_fw (fun _ => ox_iconst X41_3.here hx (hb hby d41_40)) ?_
  refine own_fw (fun _ => ox_bipush X41_3.here hx (hb hby d41_41)) ?_
  refine own_fw (fun _ => ox_iloadN X41_3.here hx (hb hby d41_43) rfl) ?_
  refine own_fw (fun _ => ox_bipush X41_3.here hx (hb hby d41_44)) ?_
  refine own_fw (fun _ => ox_irem X41_3.here hx (hb hby d41_46) rfl (by decide)) ?_
  refine own_fw (fun _ => ox_iadd X41_3.here hx (hb hby d41_47) rfl) ?_
  refine own_fw (fun _ => ox_i2c X41_3.here hx (hb hby d41_48) rfl) ?_
  obtain ⟨cl41_4, Ar41_4, q41_4, S41_4, Ng41_4, Hs41_4, G41_4⟩ := id V41_3
  have hin41_4 : ¬ ((2 : Int32) < 0 ∨ cl41_4.slots.size ≤ ((2 : Int32)).toNatClampNeg) := inb_of S41_4 ⟨by decide, by decide⟩
  obtain ⟨T41_4, h41_4, X41_4, e41_4, W41_4, st41_4⟩ := stC X41_3 hx hZ e41_3 Ar41_4 (j := (2 : Int32)) hin41_4 (g := (mkF m 49 #[.val (.int p0), .val (.int (own_irem (p0 &&& (1023 : Int32)) (1000 : Int32))), .val (.ref b41_1)] [(.int (((48 : Int32) + (own_irem (own_irem (p0 &&& (1023 : Int32)) (1000 : Int32)) (10 : Int32))).toUInt32.toUInt16.toUInt32.toInt32)), (.int (2 : Int32)), (.ref b41_1)])) rfl rfl (hb hby d41_49)
  have V41_4 : Arv Z h41_4 b41_1 k41_1 .char (5 : Int32) [(.int (nar .char (((48 : Int32) + ((own_irem (p0 &&& (1023 : Int32)) (1000 : Int32)) / (100 : Int32))).toUInt32.toUInt16.toUInt32.toInt32))), (.int (nar .char (((48 : Int32) + (own_irem ((own_irem (p0 &&& (1023 : Int32)) (1000 : Int32)) / (10 : Int32)) (10 : Int32))).toUInt32.toUInt16.toUInt32.toInt32))), (.int (nar .char (((48 : Int32) + (own_irem (own_irem (p0 &&& (1023 : Int32)) (1000 : Int32)) (10 : Int32))).toUInt32.toUInt16.toUInt32.toInt32))), (.int (0 : Int32)), (.int (0 : Int32))] (.int (0 : Int32)) := Arv.set Ar41_4 q41_4 S41_4 Ng41_4 Hs41_4 G41_4 (fits_nar_char _) W41_4 2 rfl (Nat.le_of_ble_eq_true rfl)
  have N41_4 := Fr.snoc X41_4 N41_3 g_b41_1
  refine own_fw (A := T41_4.setTop (mkF m 50 #[.val (.int p0), .val (.int (own_irem (p0 &&& (1023 : Int32)) (1000 : Int32))), .val (.ref b41_1)] [])) st41_4 ?_
  refine own_fw (fun _ => ox_aloadN X41_4.here hx (hb hby d41_50) rfl rfl) ?_
  refine own_fw (fun _ => ox_iconst X41_4.here hx (hb hby d41_51)) ?_
  refine own_fw (fun _ => ox_bipush X41_4.here hx (hb hby d41_52)) ?_
  obtain ⟨cl41_5, Ar41_5, q41_5, S41_5, Ng41_5, Hs41_5, G41_5⟩ := id V41_4
  have hin41_5 : ¬ ((3 : Int32) < 0 ∨ cl41_5.slots.size ≤ ((3 : Int32)).toNatClampNeg) := inb_of S41_5 ⟨by decide, by decide⟩
  obtain ⟨T41_5, h41_5, X41_5, e41_5, W41_5, st41_5⟩ := stC X41_4 hx hZ e41_4 Ar41_5 (j := (3 : Int32)) hin41_5 (g := (mkF m 54 #[.val (.int p0), .val (.int (own_irem (p0 &&& (1023 : Int32)) (1000 : Int32))), .val (.ref b41_1)] [(.int (32 : Int32)), (.int (3 : Int32)), (.ref b41_1)])) rfl rfl (hb hby d41_54)
  have V41_5 : Arv Z h41_5 b41_1 k41_1 .char (5 : Int32) [(.int (nar .char (((48 : Int32) + ((own_irem (p0 &&& (1023 : Int32)) (1000 : Int32)) / (100 : Int32))).toUInt32.toUInt16.toUInt32.toInt32))), (.int (nar .char (((48 : Int32) + (own_irem ((own_irem (p0 &&& (1023 : Int32)) (1000 : Int32)) / (10 : Int32)) (10 : Int32))).toUInt32.toUInt16.toUInt32.toInt32))), (.int (nar .char (((48 : Int32) + (own_irem (own_irem (p0 &&& (1023 : Int32)) (1000 : Int32)) (10 : Int32))).toUInt32.toUInt16.toUInt32.toInt32))), (.int (nar .char (32 : Int32))), (.int (0 : Int32))] (.int (0 : Int32)) := Arv.set Ar41_5 q41_5 S41_5 Ng41_5 Hs41_5 G41_5 (fits_nar_char _) W41_5 3 rfl (Nat.le_of_ble_eq_true rfl)
  have N41_5 := Fr.snoc X41_5 N41_4 g_b41_1
  refine own_fw (A := T41_5.setTop (mkF m 55 #[.val (.int p0), .val (.int (own_irem (p0 &&& (1023 : Int32)) (1000 : Int32))), .val (.ref b41_1)] [])) st41_5 ?_
  refine own_fw (fun _ => ox_aloadN X41_5.here hx (hb hby d41_55) rfl rfl) ?_
  refine own_fw (fun _ => ox_iconst X41_5.here hx (hb hby d41_56)) ?_
  refine own_fw (fun _ => ox_bipush X41_5.here hx (hb hby d41_57)) ?_
  refine own_fw (fun _ => ox_iloadN X41_5.here hx (hb hby d41_59) rfl) ?_
  refine own_fw (fun _ => ox_bipush X41_5.here hx (hb hby d41_60)) ?_
  refine own_fw (fun _ => ox_iushr X41_5.here hx (hb hby d41_62) rfl) ?_
  refine own_fw (fun _ => ox_bipush X41_5.here hx (hb hby d41_63)) ?_
  refine own_fw (fun _ => ox_irem X41_5.here hx (hb hby d41_65) rfl (by decide)) ?_
  refine own_fw (fun _ => ox_iadd X41_5.here hx (hb hby d41_66) rfl) ?_
  refine own_fw (fun _ => ox_i2c X41_5.here hx (hb hby d41_67) rfl) ?_
  obtain ⟨cl41_6, Ar41_6, q41_6, S41_6, Ng41_6, Hs41_6, G41_6⟩ := id V41_5
  have hin41_6 : ¬ ((4 : Int32) < 0 ∨ cl41_6.slots.size ≤ ((4 : Int32)).toNatClampNeg) := inb_of S41_6 ⟨by decide, by decide⟩
  obtain ⟨T41_6, h41_6, X41_6, e41_6, W41_6, st41_6⟩ := stC X41_5 hx hZ e41_5 Ar41_6 (j := (4 : Int32)) hin41_6 (g := (mkF m 68 #[.val (.int p0), .val (.int (own_irem (p0 &&& (1023 : Int32)) (1000 : Int32))), .val (.ref b41_1)] [(.int (((65 : Int32) + (own_irem ((p0.toUInt32 >>> ((10 : Int32) &&& 31).toUInt32).toInt32) (25 : Int32))).toUInt32.toUInt16.toUInt32.toInt32)), (.int (4 : Int32)), (.ref b41_1)])) rfl rfl (hb hby d41_68)
  have V41_6 : Arv Z h41_6 b41_1 k41_1 .char (5 : Int32) [(.int (nar .char (((48 : Int32) + ((own_irem (p0 &&& (1023 : Int32)) (1000 : Int32)) / (100 : Int32))).toUInt32.toUInt16.toUInt32.toInt32))), (.int (nar .char (((48 : Int32) + (own_irem ((own_irem (p0 &&& (1023 : Int32)) (1000 : Int32)) / (10 : Int32)) (10 : Int32))).toUInt32.toUInt16.toUInt32.toInt32))), (.int (nar .char (((48 : Int32) + (own_irem (own_irem (p0 &&& (1023 : Int32)) (1000 : Int32)) (10 : Int32))).toUInt32.toUInt16.toUInt32.toInt32))), (.int (nar .char (32 : Int32))), (.int (nar .char (((65 : Int32) + (own_irem ((p0.toUInt32 >>> ((10 : Int32) &&& 31).toUInt32).toInt32) (25 : Int32))).toUInt32.toUInt16.toUInt32.toInt32)))] (.int (0 : Int32)) := Arv.set Ar41_6 q41_6 S41_6 Ng41_6 Hs41_6 G41_6 (fits_nar_char _) W41_6 4 rfl (Nat.le_of_ble_eq_true rfl)
  have N41_6 := Fr.snoc X41_6 N41_5 g_b41_1
  refine own_fw (A := T41_6.setTop (mkF m 69 #[.val (.int p0), .val (.int (own_irem (p0 &&& (1023 : Int32)) (1000 : Int32))), .val (.ref b41_1)] [])) st41_6 ?_
  obtain ⟨T41_7, h41_7, X41_7, e41_7, E41_7, A41_7, D41_7, -, st41_7⟩ := newO X41_6 hx hZ hown (own_w hw 17 rfl) (own_w hw 18 rfl) (own_w hw 19 rfl) e41_6 (g := (mkF m 69 #[.val (.int p0), .val (.int (own_irem (p0 &&& (1023 : Int32)) (1000 : Int32))), .val (.ref b41_1)] [])) rfl (hb hby d41_69) (by decide) (by decide)
  obtain ⟨b41_7, g41_7⟩ : ∃ z, z = h41_6.size := ⟨_, rfl⟩
  rw [← g41_7] at A41_7 D41_7 st41_7
  have ne_b41_1_b41_7 : b41_1 ≠ b41_7 := Nat.ne_of_lt (Nat.lt_of_lt_of_le V41_6.lt (Nat.le_of_eq g41_7.symm))
  have g_b41_7 : n0 ≤ b41_7 := Nat.le_trans (Nat.le_trans (Nat.le_trans (Nat.le_trans (Nat.le_trans (Nat.le_trans (Nat.le_trans Z0 E41_1.1) (Keep.of_wr W41_2).1) (Keep.of_wr W41_3).1) (Keep.of_wr W41_4).1) (Keep.of_wr W41_5).1) (Keep.of_wr W41_6).1) (Nat.le_of_eq g41_7.symm)
  have sz_b41_7 : h0.size ≤ b41_7 := Nat.le_trans (((((((Keep.refl h0 []).ext E41_1).wr W41_2 (Or.inr sz_b41_1)).wr W41_3 (Or.inr sz_b41_1)).wr W41_4 (Or.inr sz_b41_1)).wr W41_5 (Or.inr sz_b41_1)).wr W41_6 (Or.inr sz_b41_1)).1 (Nat.le_of_eq g41_7.symm)
  have F_coder_b41_7 : Fld Z h41_7 b41_7 "java/lang/String" "coder" "B" (.int (0 : Int32)) := D41_7 (Or.inr (own_w hw 41 rfl)) (ty := .byte) (by decide)
  have F_value_b41_7 : Fld Z h41_7 b41_7 "java/lang/String" "value" "[B" .null := D41_7 (Or.inr (own_w hw 43 rfl)) (ty := (.array .byte)) (by decide)
  refine own_fw (A := T41_7.setTop (mkF m 72 #[.val (.int p0), .val (.int (own_irem (p0 &&& (1023 : Int32)) (1000 : Int32))), .val (.ref b41_1)] [(.ref b41_7)])) st41_7 ?_
  refine own_fw (fun _ => ox_dup X41_7.here hx (hb hby d41_72) rfl rfl) ?_
  refine own_fw (fun _ => ox_aloadN X41_7.here hx (hb hby d41_73) rfl rfl) ?_
  refine own_ic X41_7 hx hZ hown (rmS1_5 l Z a0 hw [] b41_7 b41_1 k41_1 (nar .char (((48 : Int32) + ((own_irem (p0 &&& (1023 : Int32)) (1000 : Int32)) / (100 : Int32))).toUInt32.toUInt16.toUInt32.toInt32)) (nar .char (((48 : Int32) + (own_irem ((own_irem (p0 &&& (1023 : Int32)) (1000 : Int32)) / (10 : Int32)) (10 : Int32))).toUInt32.toUInt16.toUInt32.toInt32)) (nar .char (((48 : Int32) + (own_irem (own_irem (p0 &&& (1023 : Int32)) (1000 : Int32)) (10 : Int32))).toUInt32.toUInt16.toUInt32.toInt32)) (nar .char (32 : Int32)) (nar .char (((65 : Int32) + (own_irem ((p0.toUInt32 >>> ((10 : Int32) &&& 31).toUInt32).toInt32) (25 : Int32))).toUInt32.toUInt16.toUInt32.toInt32)) cc fv ra h41_7 n0 (Nat.le_trans (Nat.le_trans (Nat.le_trans (Nat.le_trans (Nat.le_trans (Nat.le_trans (Nat.le_trans Z0 E41_1.1) (Keep.of_wr W41_2).1) (Keep.of_wr W41_3).1) (Keep.of_wr W41_4).1) (Keep.of_wr W41_5).1) (Keep.of_wr W41_6).1) E41_7.1) A41_7 F_value_b41_7 F_coder_b41_7 (V41_6.ext E41_7) ne_b41_1_b41_7 g_b41_7 (own_dle (own_dasc (own_L0 p0))) (own_dle (own_dasc (own_L1 p0))) (own_dle (own_dasc (own_L2 p0))) (own_dle (own_a32c)) (own_dle (own_lasc (own_L4 p0))) ⟨(((((((O_0.ext E41_1).wr W41_2 g_b41_1).wr W41_3 g_b41_1).wr W41_4 g_b41_1).wr W41_5 g_b41_1).wr W41_6 g_b41_1).ext E41_7), S_c, hcc, S_f, hfv, S_r⟩) (own_w hw 20 rfl) (own_w hw 21 rfl) (own_w hw 22 rfl) (own_w hw 19 rfl) rfl (by decide) hml rfl e41_7 (hb hby d41_74) rfl rfl (lenOf pd41_0 rfl) (W := 1) rfl (by decide) (by decide) (c' := 3) (s' := 14) rfl rfl (by decide) (by decide) ?_
  rintro _ T41_8 L41_8 X41_8 ⟨bc41_8, kb41_8, rfl, N41_8q, K41_8, E41_8, Sv41_8, Sc41_8, Vb41_8, zb41_8⟩
  have N41_8 := Fr.app N41_6 N41_8q
  have sz_bc41_8 : h0.size ≤ bc41_8 := Nat.le_trans ((((((((Keep.refl h0 []).ext E41_1).wr W41_2 (Or.inr sz_b41_1)).wr W41_3 (Or.inr sz_b41_1)).wr W41_4 (Or.inr sz_b41_1)).wr W41_5 (Or.inr sz_b41_1)).wr W41_6 (Or.inr sz_b41_1)).ext E41_7).1 zb41_8
  have Vc41_8 : Arv Z T41_8.heap bc41_8 kb41_8 .byte (5 : Int32) [(.int (nar .char (((48 : Int32) + ((own_irem (p0 &&& (1023 : Int32)) (1000 : Int32)) / (100 : Int32))).toUInt32.toUInt16.toUInt32.toInt32))), (.int (nar .char (((48 : Int32) + (own_irem ((own_irem (p0 &&& (1023 : Int32)) (1000 : Int32)) / (10 : Int32)) (10 : Int32))).toUInt32.toUInt16.toUInt32.toInt32))), (.int (nar .char (((48 : Int32) + (own_irem (own_irem (p0 &&& (1023 : Int32)) (1000 : Int32)) (10 : Int32))).toUInt32.toUInt16.toUInt32.toInt32))), (.int (nar .char (32 : Int32))), (.int (nar .char (((65 : Int32) + (own_irem ((p0.toUInt32 >>> ((10 : Int32) &&& 31).toUInt32).toInt32) (25 : Int32))).toUInt32.toUInt16.toUInt32.toInt32)))] (.int 0) := own_arvc Vb41_8 (by rw [own_dby (own_dasc (own_L0 p0)), own_dby (own_dasc (own_L1 p0)), own_dby (own_dasc (own_L2 p0)), own_dby (own_a32c), own_dby (own_lasc (own_L4 p0))])
  have hV : Arv Z T41_8.heap bc41_8 kb41_8 .byte (5 : Int32) [(.int (nar .char (((48 : Int32) + ((own_irem (p0 &&& (1023 : Int32)) (1000 : Int32)) / (100 : Int32))).toUInt32.toUInt16.toUInt32.toInt32))), (.int (nar .char (((48 : Int32) + (own_irem ((own_irem (p0 &&& (1023 : Int32)) (1000 : Int32)) / (10 : Int32)) (10 : Int32))).toUInt32.toUInt16.toUInt32.toInt32))), (.int (nar .char (((48 : Int32) + (own_irem (own_irem (p0 &&& (1023 : Int32)) (1000 : Int32)) (10 : Int32))).toUInt32.toUInt16.toUInt32.toInt32))), (.int (32 : Int32)), (.int (nar .char (((65 : Int32) + (own_irem ((p0.toUInt32 >>> ((10 : Int32) &&& 31).toUInt32).toInt32) (25 : Int32))).toUInt32.toUInt16.toUInt32.toInt32)))] (.int 0) := own_arvc Vc41_8 (by rw [show nar .char (32 : Int32) = (32 : Int32) from by decide])
  exact own_leaf X41_8 (v := some (.ref b41_7)) (own_ret Bd.returns) (BodyLoose.notSynchronized Bd) rfl (⟨b41_7, bc41_8, kb41_8, (nar .char (((48 : Int32) + ((own_irem (p0 &&& (1023 : Int32)) (1000 : Int32)) / (100 : Int32))).toUInt32.toUInt16.toUInt32.toInt32)), (nar .char (((48 : Int32) + (own_irem ((own_irem (p0 &&& (1023 : Int32)) (1000 : Int32)) / (10 : Int32)) (10 : Int32))).toUInt32.toUInt16.toUInt32.toInt32)), (nar .char (((48 : Int32) + (own_irem (own_irem (p0 &&& (1023 : Int32)) (1000 : Int32)) (10 : Int32))).toUInt32.toUInt16.toUInt32.toInt32)), (nar .char (((65 : Int32) + (own_irem ((p0.toUInt32 >>> ((10 : Int32) &&& 31).toUInt32).toInt32) (25 : Int32))).toUInt32.toUInt16.toUInt32.toInt32)), rfl, N41_8, (((((((((Keep.refl h0 []).ext E41_1).wr W41_2 (Or.inr sz_b41_1)).wr W41_3 (Or.inr sz_b41_1)).wr W41_4 (Or.inr sz_b41_1)).wr W41_5 (Or.inr sz_b41_1)).wr W41_6 (Or.inr sz_b41_1)).ext E41_7).trans K41_8 (allS (Or.inr sz_b41_7) all0)), E41_8, Sv41_8, Sc41_8, hV, own_L0 p0, own_L1 p0, own_L2 p0, own_L4 p0, sz_b41_7, sz_bc41_8⟩) (by decide) (by decide) (fun fs hr => retA (ty := (.object "java/lang/String")) X41_8 hx rfl rfl Bd.returns (hb hby d41_77) hr)
theorem own_P {tb : Tables} {e : Env} {below : List Frame} {B : State} {P : State → Outcome → Prop} (k : ∀ PP : State → Outcome → Prop, (∀ t o, P t o → PP t o) → ∃ t o, Steps tb e below B t ∧ PP t o) : ∃ t o, Steps tb e below B t ∧ P t o := k P (fun _ _ h => h)
theorem pn0 : plainName "com/example/copperline/copperline/ProgramReplaceWithPinLaw" = true := by first | (simp [plainName, overriddenIn]; done) | decide +kernel
theorem pd0_0 : parseMethodDescriptor "()V" = some ⟨[], none⟩ := by decide +kernel
theorem pd0_1 : parseMethodDescriptor "([C)V" = some ⟨[(.array .char)], none⟩ := by decide +kernel
theorem pd0_2 : parseMethodDescriptor "()I" = some ⟨[], some .int⟩ := by decide +kernel
theorem pd0_3 : parseMethodDescriptor "(Lcom/example/copperline/copperline/Program;)V" = some ⟨[(.object "com/example/copperline/copperline/Program")], none⟩ := by decide +kernel
theorem pd0_4 : parseMethodDescriptor "(Lcom/example/copperline/copperline/Program;Lcom/example/copperline/copperline/Program;II)Z" = some ⟨[(.object "com/example/copperline/copperline/Program"), (.object "com/example/copperline/copperline/Program"), .int, .int], some .boolean⟩ := by decide +kernel
theorem pd0_5 : parseMethodDescriptor "(Ljava/lang/String;)Z" = some ⟨[(.object "java/lang/String")], some .boolean⟩ := by decide +kernel
theorem pd0_6 : parseMethodDescriptor "(Lcom/example/copperline/copperline/Program;IIILjava/lang/String;)Z" = some ⟨[(.object "com/example/copperline/copperline/Program"), .int, .int, .int, (.object "java/lang/String")], some .boolean⟩ := by decide +kernel
theorem pd0_7 : parseMethodDescriptor "(I)I" = some ⟨[.int], some .int⟩ := by decide +kernel
theorem pd0_8 : parseMethodDescriptor "(I)Ljava/lang/String;" = some ⟨[.int], some (.object "java/lang/String")⟩ := by decide +kernel
theorem ef0 (m : MethodId) (p0 : Int32) (p1 : Int32) (p2 : Int32) (p3 : Int32) : entryFrame m #[(.int p0), (.int p1), (.int p2), (.int p3)] maxLocals = mkF m 0 #[.val (.int p0), .val (.int p1), .val (.int p2), .val (.int p3), .unset, .unset, .unset, .unset, .unset, .unset, .unset, .unset, .unset, .unset, .unset, .unset] [] := by first | (simp [entryFrame, mkF, argsToLocals, Value.category, maxLocals]; done) | rfl
def Q0 (Z : State) (p0 p1 p2 p3 : Int32) (h0 : Heap) (n0 : Nat) (v : Option Value) (h : Heap) (L : List Loc) : Prop := v = some (.int 1) ∧ Fr n0 L
theorem rm0 (l : Launch) (Z : State) (a0 : Array Value) (hw : ∀ d ∈ tables_1, d.before a0 Z = true) (ws : List Jvm.Cond) (p0 : Int32) (p1 : Int32) (p2 : Int32) (p3 : Int32) (cc : Int32) (fv : Value) (ra : Addr) (h0 : Heap) (n0 : Nat) (Z0 : n0 ≤ h0.size) (OO : OwnOld Z n0 h0 cc fv ra) : OwnC l Z x (Jvm.Cond.code x code maxLocals ret :: ws) room_1 #[(.int p0), (.int p1), (.int p2), (.int p3)] h0 (Q0 Z p0 p1 p2 p3 h0 n0) := by
  refine own_body (plainFor_of_name pn0) (fun m => ef0 m p0 p1 p2 p3) ?_
  intro p e s m below meth c s₁ Bd hZ hml hown e0 hx hby hnm X0
  have N0 := Fr.nil n0
  obtain ⟨O_0, S_c, hcc, S_f, hfv, S_r⟩ := OO
  refine own_P (fun PP hPP => ?_)
  obtain ⟨T0_1, h0_1, X0_1, e0_1, E0_1, A0_1, D0_1, -, st0_1⟩ := newO X0 hx hZ hown (own_w hw 0 rfl) (own_w hw 1 rfl) (own_w hw 2 rfl) e0 (g := (mkF m 0 #[.val (.int p0), .val (.int p1), .val (.int p2), .val (.int p3), .unset, .unset, .unset, .unset, .unset, .unset, .unset, .unset, .unset, .unset, .unset, .unset] [])) rfl (hb hby at_0) (by decide) (by decide)
  obtain ⟨b0_1, g0_1⟩ : ∃ z, z = h0.size := ⟨_, rfl⟩
  rw [← g0_1] at A0_1 D0_1 st0_1
  have g_b0_1 : n0 ≤ b0_1 := Nat.le_trans Z0 (Nat.le_of_eq g0_1.symm)
  have F_numbers_b0_1 : Fld Z h0_1 b0_1 "com/example/copperline/copperline/Program" "numbers" "[I" .null := D0_1 (Or.inl (own_w hw 11 rfl)) (ty := (.array .int)) (by decide)
  have F_texts_b0_1 : Fld Z h0_1 b0_1 "com/example/copperline/copperline/Program" "texts" "[Ljava/lang/String;" .null := D0_1 (Or.inl (own_w hw 15 rfl)) (ty := (.array (.object "java/lang/String"))) (by decide)
  have F_version_b0_1 : Fld Z h0_1 b0_1 "com/example/copperline/copperline/Program" "version" "I" (.int (0 : Int32)) := D0_1 (Or.inl (own_w hw 50 rfl)) (ty := .int) (by decide)
  have F_size_b0_1 : Fld Z h0_1 b0_1 "com/example/copperline/copperline/Program" "size" "I" (.int (0 : Int32)) := D0_1 (Or.inl (own_w hw 57 rfl)) (ty := .int) (by decide)
  refine own_fw (A := T0_1.setTop (mkF m 3 #[.val (.int p0), .val (.int p1), .val (.int p2), .val (.int p3), .unset, .unset, .unset, .unset, .unset, .unset, .unset, .unset, .unset, .unset, .unset, .unset] [(.ref b0_1)])) st0_1 ?_
  obtain ⟨Lhd0_2, Xhd0_2, Nhd0_2⟩ := own_hide X0_1 N0
  refine own_fw (fun _ => ox_dup Xhd0_2.here hx (hb hby at_3) rfl rfl) ?_
  refine own_ic Xhd0_2 hx hZ hown (rm1 l Z a0 hw [] b0_1 h0_1 n0 (Nat.le_trans Z0 E0_1.1) A0_1 F_numbers_b0_1 F_texts_b0_1 F_size_b0_1 F_version_b0_1 g_b0_1) (own_w hw 3 rfl) (own_w hw 4 rfl) (own_w hw 5 rfl) (own_w hw 2 rfl) rfl (by decide) hml rfl e0_1 (hb hby at_4) rfl rfl (lenOf pd0_0 rfl) (W := 1) rfl (by decide) (by decide) (c' := 3) (s' := 36) rfl rfl (by decide) (by decide) ?_
  rintro _ T0_3 L0_3 X0_3 ⟨na0_3, ta0_3, kn0_3, kt0_3, rfl, N0_3q, K0_3, ⟨Ep0_3, Fn0_3, Ft0_3, Fs0_3, Fv0_3, Vn0_3, Vt0_3, En0_3, Et0_3, Ov0_3, nt0_3⟩, zn0_3, zt0_3⟩
  have N0_3 := Fr.app Nhd0_2 N0_3q
  have g_na0_3 : n0 ≤ na0_3 := Nat.le_trans (Nat.le_trans Z0 E0_1.1) zn0_3
  have g_ta0_3 : n0 ≤ ta0_3 := Nat.le_trans (Nat.le_trans Z0 E0_1.1) zt0_3
  obtain ⟨Lhd0_4, Xhd0_4, Nhd0_4⟩ := own_hide X0_3 N0_3
  refine own_fw (fun _ => ox_astore Xhd0_4.here hx (hb hby at_7) rfl rfl (l' := #[.val (.int p0), .val (.int p1), .val (.int p2), .val (.int p3), .val (.ref b0_1), .unset, .unset, .unset, .unset, .unset, .unset, .unset, .unset, .unset, .unset, .unset]) rfl) ?_
  obtain ⟨T0_5, h0_5, X0_5, e0_5, E0_5, A0_5, D0_5, -, st0_5⟩ := newO Xhd0_4 hx hZ hown (own_w hw 0 rfl) (own_w hw 1 rfl) (own_w hw 2 rfl) rfl (g := (mkF m 9 #[.val (.int p0), .val (.int p1), .val (.int p2), .val (.int p3), .val (.ref b0_1), .unset, .unset, .unset, .unset, .unset, .unset, .unset, .unset, .unset, .unset, .unset] [])) rfl (hb hby at_9) (by decide) (by decide)
  obtain ⟨b0_5, g0_5⟩ : ∃ z, z = T0_3.heap.size := ⟨_, rfl⟩
  rw [← g0_5] at A0_5 D0_5 st0_5
  have ne_b0_1_b0_5 : b0_1 ≠ b0_5 := Nat.ne_of_lt (Nat.lt_of_lt_of_le Ep0_3.lt (Nat.le_of_eq g0_5.symm))
  have ne_na0_3_b0_5 : na0_3 ≠ b0_5 := Nat.ne_of_lt (Nat.lt_of_lt_of_le Vn0_3.lt (Nat.le_of_eq g0_5.symm))
  have ne_ta0_3_b0_5 : ta0_3 ≠ b0_5 := Nat.ne_of_lt (Nat.lt_of_lt_of_le Vt0_3.lt (Nat.le_of_eq g0_5.symm))
  have g_b0_5 : n0 ≤ b0_5 := Nat.le_trans (Nat.le_trans (Nat.le_trans Z0 E0_1.1) K0_3.1) (Nat.le_of_eq g0_5.symm)
  have F_numbers_b0_5 : Fld Z h0_5 b0_5 "com/example/copperline/copperline/Program" "numbers" "[I" .null := D0_5 (Or.inl (own_w hw 11 rfl)) (ty := (.array .int)) (by decide)
  have F_texts_b0_5 : Fld Z h0_5 b0_5 "com/example/copperline/copperline/Program" "texts" "[Ljava/lang/String;" .null := D0_5 (Or.inl (own_w hw 15 rfl)) (ty := (.array (.object "java/lang/String"))) (by decide)
  have F_version_b0_5 : Fld Z h0_5 b0_5 "com/example/copperline/copperline/Program" "version" "I" (.int (0 : Int32)) := D0_5 (Or.inl (own_w hw 50 rfl)) (ty := .int) (by decide)
  have F_size_b0_5 : Fld Z h0_5 b0_5 "com/example/copperline/copperline/Program" "size" "I" (.int (0 : Int32)) := D0_5 (Or.inl (own_w hw 57 rfl)) (ty := .int) (by decide)
  refine own_fw (A := T0_5.setTop (mkF m 12 #[.val (.int p0), .val (.int p1), .val (.int p2), .val (.int p3), .val (.ref b0_1), .unset, .unset, .unset, .unset, .unset, .unset, .unset, .unset, .unset, .unset, .unset] [(.ref b0_5)])) st0_5 ?_
  have fc0_6 := (Nat.le_trans (Nat.le_trans (Nat.le_trans Z0 E0_1.1) K0_3.1) E0_5.1)
  refine own_fw (fun _ => ox_dup X0_5.here hx (hb hby at_12) rfl rfl) ?_
  refine own_ic X0_5 hx hZ hown (rm1 l Z a0 hw [] b0_5 h0_5 n0 fc0_6 A0_5 F_numbers_b0_5 F_texts_b0_5 F_size_b0_5 F_version_b0_5 g_b0_5) (own_w hw 3 rfl) (own_w hw 4 rfl) (own_w hw 5 rfl) (own_w hw 2 rfl) rfl (by decide) hml rfl e0_5 (hb hby at_13) rfl rfl (lenOf pd0_0 rfl) (W := 1) rfl (by decide) (by decide) (c' := 6) (s' := 72) rfl rfl (by decide) (by decide) ?_
  rintro _ T0_7 L0_7 X0_7 ⟨na0_7, ta0_7, kn0_7, kt0_7, rfl, N0_7q, K0_7, ⟨Ep0_7, Fn0_7, Ft0_7, Fs0_7, Fv0_7, Vn0_7, Vt0_7, En0_7, Et0_7, Ov0_7, nt0_7⟩, zn0_7, zt0_7⟩
  have N0_7 := Fr.app Nhd0_4 N0_7q
  have ne_b0_1_na0_7 : b0_1 ≠ na0_7 := Nat.ne_of_lt (Nat.lt_of_lt_of_le (Ep0_3.ext E0_5).lt zn0_7)
  have ne_na0_3_na0_7 : na0_3 ≠ na0_7 := Nat.ne_of_lt (Nat.lt_of_lt_of_le (Vn0_3.ext E0_5).lt zn0_7)
  have ne_ta0_3_na0_7 : ta0_3 ≠ na0_7 := Nat.ne_of_lt (Nat.lt_of_lt_of_le (Vt0_3.ext E0_5).lt zn0_7)
  have g_na0_7 : n0 ≤ na0_7 := Nat.le_trans fc0_6 zn0_7
  have ne_b0_1_ta0_7 : b0_1 ≠ ta0_7 := Nat.ne_of_lt (Nat.lt_of_lt_of_le (Ep0_3.ext E0_5).lt zt0_7)
  have ne_na0_3_ta0_7 : na0_3 ≠ ta0_7 := Nat.ne_of_lt (Nat.lt_of_lt_of_le (Vn0_3.ext E0_5).lt zt0_7)
  have ne_ta0_3_ta0_7 : ta0_3 ≠ ta0_7 := Nat.ne_of_lt (Nat.lt_of_lt_of_le (Vt0_3.ext E0_5).lt zt0_7)
  have g_ta0_7 : n0 ≤ ta0_7 := Nat.le_trans fc0_6 zt0_7
  have fc0_8 := ((((O_0.ext E0_1).keep K0_3 (allS g_b0_1 all0)).ext E0_5).keep K0_7 (allS g_b0_5 all0))
  have fc0_9 := ((Fn0_3.ext E0_5).keep K0_7 (fun q => ne_b0_1_b0_5 (List.mem_singleton.mp q)))
  have fc0_10 := ((Ft0_3.ext E0_5).keep K0_7 (fun q => ne_b0_1_b0_5 (List.mem_singleton.mp q)))
  have fc0_11 := ((Fs0_3.ext E0_5).keep K0_7 (fun q => ne_b0_1_b0_5 (List.mem_singleton.mp q)))
  have fc0_12 := ((Fv0_3.ext E0_5).keep K0_7 (fun q => ne_b0_1_b0_5 (List.mem_singleton.mp q)))
  have fc0_13 := ((Vn0_3.ext E0_5).keep K0_7 (fun q => ne_na0_3_b0_5 (List.mem_singleton.mp q)))
  have fc0_14 := ((Vt0_3.ext E0_5).keep K0_7 (fun q => ne_ta0_3_b0_5 (List.mem_singleton.mp q)))
  obtain ⟨Lhd0_15, Xhd0_15, Nhd0_15⟩ := own_hide X0_7 N0_7
  refine own_fw (fun _ => ox_astore Xhd0_15.here hx (hb hby at_16) rfl rfl (l' := #[.val (.int p0), .val (.int p1), .val (.int p2), .val (.int p3), .val (.ref b0_1), .val (.ref b0_5), .unset, .unset, .unset, .unset, .unset, .unset, .unset, .unset, .unset, .unset]) rfl) ?_
  refine own_fw (fun _ => ox_iconst Xhd0_15.here hx (hb hby at_18)) ?_
  obtain ⟨T0_16, h0_16, k0_16, X0_16, e0_16, E0_16, A0_16, st0_16⟩ := newP Xhd0_15 hx hZ (own_w hw 16 rfl) rfl (g := (mkF m 19 #[.val (.int p0), .val (.int p1), .val (.int p2), .val (.int p3), .val (.ref b0_1), .val (.ref b0_5), .unset, .unset, .unset, .unset, .unset, .unset, .unset, .unset, .unset, .unset] [(.int (4 : Int32))])) rfl (hb hby at_19) rfl (by decide) (cap := 4) (by decide) (by decide) (by decide) (by decide)
  obtain ⟨b0_16, g0_16⟩ : ∃ z, z = T0_7.heap.size := ⟨_, rfl⟩
  rw [← g0_16] at A0_16 st0_16
  have ne_b0_1_b0_16 : b0_1 ≠ b0_16 := Nat.ne_of_lt (Nat.lt_of_lt_of_le ((Ep0_3.ext E0_5).keep K0_7).lt (Nat.le_of_eq g0_16.symm))
  have ne_na0_3_b0_16 : na0_3 ≠ b0_16 := Nat.ne_of_lt (Nat.lt_of_lt_of_le fc0_13.lt (Nat.le_of_eq g0_16.symm))
  have ne_ta0_3_b0_16 : ta0_3 ≠ b0_16 := Nat.ne_of_lt (Nat.lt_of_lt_of_le fc0_14.lt (Nat.le_of_eq g0_16.symm))
  have ne_b0_5_b0_16 : b0_5 ≠ b0_16 := Nat.ne_of_lt (Nat.lt_of_lt_of_le Ep0_7.lt (Nat.le_of_eq g0_16.symm))
  have ne_na0_7_b0_16 : na0_7 ≠ b0_16 := Nat.ne_of_lt (Nat.lt_of_lt_of_le Vn0_7.lt (Nat.le_of_eq g0_16.symm))
  have ne_ta0_7_b0_16 : ta0_7 ≠ b0_16 := Nat.ne_of_lt (Nat.lt_of_lt_of_le Vt0_7.lt (Nat.le_of_eq g0_16.symm))
  have g_b0_16 : n0 ≤ b0_16 := Nat.le_trans (Nat.le_trans fc0_6 K0_7.1) (Nat.le_of_eq g0_16.symm)
  have V_b0_16 : Arv Z h0_16 b0_16 k0_16 .char (4 : Int32) [(.int (0 : Int32)), (.int (0 : Int32)), (.int (0 : Int32)), (.int (0 : Int32))] (.int (0 : Int32)) := (Arv.new A0_16 (by decide)).pad (pad_rep [] (.int (0 : Int32)) 4)
  refine own_fw (A := T0_16.setTop (mkF m 21 #[.val (.int p0), .val (.int p1), .val (.int p2), .val (.int p3), .val (.ref b0_1), .val (.ref b0_5), .unset, .unset, .unset, .unset, .unset, .unset, .unset, .unset, .unset, .unset] [(.ref b0_16)])) st0_16 ?_
  refine own_fw (fun _ => ox_astore X0_16.here hx (hb hby at_21) rfl rfl (l' := #[.val (.int p0), .val (.int p1), .val (.int p2), .val (.int p3), .val (.ref b0_1), .val (.ref b0_5), .val (.ref b0_16), .unset, .unset, .unset, .unset, .unset, .unset, .unset, .unset, .unset]) rfl) ?_
  refine own_fw (fun _ => ox_aload X0_16.here hx (hb hby at_23) rfl rfl) ?_
  refine own_fw (fun _ => ox_iconst X0_16.here hx (hb hby at_25)) ?_
  refine own_fw (fun _ => ox_bipush X0_16.here hx (hb hby at_26)) ?_
  obtain ⟨cl0_17, Ar0_17, q0_17, S0_17, Ng0_17, Hs0_17, G0_17⟩ := id V_b0_16
  have hin0_17 : ¬ ((0 : Int32) < 0 ∨ cl0_17.slots.size ≤ ((0 : Int32)).toNatClampNeg) := inb_of S0_17 ⟨by decide, by decide⟩
  obtain ⟨T0_17, h0_17, X0_17, e0_17, W0_17, st0_17⟩ := stC X0_16 hx hZ e0_16 Ar0_17 (j := (0 : Int32)) hin0_17 (g := (mkF m 28 #[.val (.int p0), .val (.int p1), .val (.int p2), .val (.int p3), .val (.ref b0_1), .val (.ref b0_5), .val (.ref b0_16), .unset, .unset, .unset, .unset, .unset, .unset, .unset, .unset, .unset] [(.int (48 : Int32)), (.int (0 : Int32)), (.ref b0_16)])) rfl rfl (hb hby at_28)
  have V0_17 : Arv Z h0_17 b0_16 k0_16 .char (4 : Int32) [(.int (nar .char (48 : Int32))), (.int (0 : Int32)), (.int (0 : Int32)), (.int (0 : Int32))] (.int (0 : Int32)) := Arv.set Ar0_17 q0_17 S0_17 Ng0_17 Hs0_17 G0_17 (fits_nar_char _) W0_17 0 rfl (Nat.le_of_ble_eq_true rfl)
  have N0_17 := Fr.snoc X0_17 Nhd0_15 g_b0_16
  refine own_fw (A := T0_17.setTop (mkF m 29 #[.val (.int p0), .val (.int p1), .val (.int p2), .val (.int p3), .val (.ref b0_1), .val (.ref b0_5), .val (.ref b0_16), .unset, .unset, .unset, .unset, .unset, .unset, .unset, .unset, .unset] [])) st0_17 ?_
  have fc0_18 := (Nat.le_trans (Nat.le_trans (Nat.le_trans fc0_6 K0_7.1) E0_16.1) (Keep.of_wr W0_17).1)
  obtain ⟨Lhd0_19, Xhd0_19, Nhd0_19⟩ := own_hide X0_17 N0_17
  refine own_fw (fun _ => ox_aload Xhd0_19.here hx (hb hby at_29) rfl rfl) ?_
  refine own_fw (fun _ => ox_iconst Xhd0_19.here hx (hb hby at_31)) ?_
  refine own_fw (fun _ => ox_bipush Xhd0_19.here hx (hb hby at_32)) ?_
  obtain ⟨cl0_20, Ar0_20, q0_20, S0_20, Ng0_20, Hs0_20, G0_20⟩ := id V0_17
  have hin0_20 : ¬ ((1 : Int32) < 0 ∨ cl0_20.slots.size ≤ ((1 : Int32)).toNatClampNeg) := inb_of S0_20 ⟨by decide, by decide⟩
  obtain ⟨T0_20, h0_20, X0_20, e0_20, W0_20, st0_20⟩ := stC Xhd0_19 hx hZ e0_17 Ar0_20 (j := (1 : Int32)) hin0_20 (g := (mkF m 34 #[.val (.int p0), .val (.int p1), .val (.int p2), .val (.int p3), .val (.ref b0_1), .val (.ref b0_5), .val (.ref b0_16), .unset, .unset, .unset, .unset, .unset, .unset, .unset, .unset, .unset] [(.int (32 : Int32)), (.int (1 : Int32)), (.ref b0_16)])) rfl rfl (hb hby at_34)
  have V0_20 : Arv Z h0_20 b0_16 k0_16 .char (4 : Int32) [(.int (nar .char (48 : Int32))), (.int (nar .char (32 : Int32))), (.int (0 : Int32)), (.int (0 : Int32))] (.int (0 : Int32)) := Arv.set Ar0_20 q0_20 S0_20 Ng0_20 Hs0_20 G0_20 (fits_nar_char _) W0_20 1 rfl (Nat.le_of_ble_eq_true rfl)
  have N0_20 := Fr.snoc X0_20 Nhd0_19 g_b0_16
  refine own_fw (A := T0_20.setTop (mkF m 35 #[.val (.int p0), .val (.int p1), .val (.int p2), .val (.int p3), .val (.ref b0_1), .val (.ref b0_5), .val (.ref b0_16), .unset, .unset, .unset, .unset, .unset, .unset, .unset, .unset, .unset] [])) st0_20 ?_
  have fc0_21 := (((((Ep0_3.ext E0_5).keep K0_7).ext E0_16).wr W0_17).wr W0_20)
  have fc0_22 := (((fc0_9.ext E0_16).other W0_17 (Or.inl ne_b0_1_b0_16)).other W0_20 (Or.inl ne_b0_1_b0_16))
  have fc0_23 := (((fc0_10.ext E0_16).other W0_17 (Or.inl ne_b0_1_b0_16)).other W0_20 (Or.inl ne_b0_1_b0_16))
  have fc0_24 := (((fc0_11.ext E0_16).other W0_17 (Or.inl ne_b0_1_b0_16)).other W0_20 (Or.inl ne_b0_1_b0_16))
  have fc0_25 := (((fc0_12.ext E0_16).other W0_17 (Or.inl ne_b0_1_b0_16)).other W0_20 (Or.inl ne_b0_1_b0_16))
  have fc0_26 := (((fc0_13.ext E0_16).other W0_17 ne_na0_3_b0_16).other W0_20 ne_na0_3_b0_16)
  have fc0_27 := (((fc0_14.ext E0_16).other W0_17 ne_ta0_3_b0_16).other W0_20 ne_ta0_3_b0_16)
  have fc0_28 := (((((En0_3.ext E0_5).keep K0_7).ext E0_16).wr W0_17).wr W0_20)
  have fc0_29 := (((((Et0_3.ext E0_5).keep K0_7).ext E0_16).wr W0_17).wr W0_20)
  have fc0_30 := (((Fn0_7.ext E0_16).other W0_17 (Or.inl ne_b0_5_b0_16)).other W0_20 (Or.inl ne_b0_5_b0_16))
  have fc0_31 := (((Ft0_7.ext E0_16).other W0_17 (Or.inl ne_b0_5_b0_16)).other W0_20 (Or.inl ne_b0_5_b0_16))
  have fc0_32 := (((Fs0_7.ext E0_16).other W0_17 (Or.inl ne_b0_5_b0_16)).other W0_20 (Or.inl ne_b0_5_b0_16))
  have fc0_33 := (((Fv0_7.ext E0_16).other W0_17 (Or.inl ne_b0_5_b0_16)).other W0_20 (Or.inl ne_b0_5_b0_16))
  have fc0_34 := (((Vn0_7.ext E0_16).other W0_17 ne_na0_7_b0_16).other W0_20 ne_na0_7_b0_16)
  have fc0_35 := (((Vt0_7.ext E0_16).other W0_17 ne_ta0_7_b0_16).other W0_20 ne_ta0_7_b0_16)
  obtain ⟨Lhd0_36, Xhd0_36, Nhd0_36⟩ := own_hide X0_20 N0_20
  refine own_fw (fun _ => ox_aload Xhd0_36.here hx (hb hby at_35) rfl rfl) ?_
  refine own_fw (fun _ => ox_iconst Xhd0_36.here hx (hb hby at_37)) ?_
  refine own_fw (fun _ => ox_bipush Xhd0_36.here hx (hb hby at_38)) ?_
  obtain ⟨cl0_37, Ar0_37, q0_37, S0_37, Ng0_37, Hs0_37, G0_37⟩ := id V0_20
  have hin0_37 : ¬ ((2 : Int32) < 0 ∨ cl0_37.slots.size ≤ ((2 : Int32)).toNatClampNeg) := inb_of S0_37 ⟨by decide, by decide⟩
  obtain ⟨T0_37, h0_37, X0_37, e0_37, W0_37, st0_37⟩ := stC Xhd0_36 hx hZ e0_20 Ar0_37 (j := (2 : Int32)) hin0_37 (g := (mkF m 40 #[.val (.int p0), .val (.int p1), .val (.int p2), .val (.int p3), .val (.ref b0_1), .val (.ref b0_5), .val (.ref b0_16), .unset, .unset, .unset, .unset, .unset, .unset, .unset, .unset, .unset] [(.int (90 : Int32)), (.int (2 : Int32)), (.ref b0_16)])) rfl rfl (hb hby at_40)
  have V0_37 : Arv Z h0_37 b0_16 k0_16 .char (4 : Int32) [(.int (nar .char (48 : Int32))), (.int (nar .char (32 : Int32))), (.int (nar .char (90 : Int32))), (.int (0 : Int32))] (.int (0 : Int32)) := Arv.set Ar0_37 q0_37 S0_37 Ng0_37 Hs0_37 G0_37 (fits_nar_char _) W0_37 2 rfl (Nat.le_of_ble_eq_true rfl)
  have N0_37 := Fr.snoc X0_37 Nhd0_36 g_b0_16
  refine own_fw (A := T0_37.setTop (mkF m 41 #[.val (.int p0), .val (.int p1), .val (.int p2), .val (.int p3), .val (.ref b0_1), .val (.ref b0_5), .val (.ref b0_16), .unset, .unset, .unset, .unset, .unset, .unset, .unset, .unset, .unset] [])) st0_37 ?_
  have fc0_38 := ((((fc0_8.ext E0_16).wr W0_17 g_b0_16).wr W0_20 g_b0_16).wr W0_37 g_b0_16)
  have fc0_39 := (Nat.le_trans (Nat.le_trans fc0_18 (Keep.of_wr W0_20).1) (Keep.of_wr W0_37).1)
  obtain ⟨Lhd0_40, Xhd0_40, Nhd0_40⟩ := own_hide X0_37 N0_37
  refine own_fw (fun _ => ox_aload Xhd0_40.here hx (hb hby at_41) rfl rfl) ?_
  refine own_fw (fun _ => ox_iconst Xhd0_40.here hx (hb hby at_43)) ?_
  refine own_fw (fun _ => ox_bipush Xhd0_40.here hx (hb hby at_44)) ?_
  obtain ⟨cl0_41, Ar0_41, q0_41, S0_41, Ng0_41, Hs0_41, G0_41⟩ := id V0_37
  have hin0_41 : ¬ ((3 : Int32) < 0 ∨ cl0_41.slots.size ≤ ((3 : Int32)).toNatClampNeg) := inb_of S0_41 ⟨by decide, by decide⟩
  obtain ⟨T0_41, h0_41, X0_41, e0_41, W0_41, st0_41⟩ := stC Xhd0_40 hx hZ e0_37 Ar0_41 (j := (3 : Int32)) hin0_41 (g := (mkF m 46 #[.val (.int p0), .val (.int p1), .val (.int p2), .val (.int p3), .val (.ref b0_1), .val (.ref b0_5), .val (.ref b0_16), .unset, .unset, .unset, .unset, .unset, .unset, .unset, .unset, .unset] [(.int (90 : Int32)), (.int (3 : Int32)), (.ref b0_16)])) rfl rfl (hb hby at_46)
  have V0_41 : Arv Z h0_41 b0_16 k0_16 .char (4 : Int32) [(.int (nar .char (48 : Int32))), (.int (nar .char (32 : Int32))), (.int (nar .char (90 : Int32))), (.int (nar .char (90 : Int32)))] (.int (0 : Int32)) := Arv.set Ar0_41 q0_41 S0_41 Ng0_41 Hs0_41 G0_41 (fits_nar_char _) W0_41 3 rfl (Nat.le_of_ble_eq_true rfl)
  have N0_41 := Fr.snoc X0_41 Nhd0_40 g_b0_16
  refine own_fw (A := T0_41.setTop (mkF m 47 #[.val (.int p0), .val (.int p1), .val (.int p2), .val (.int p3), .val (.ref b0_1), .val (.ref b0_5), .val (.ref b0_16), .unset, .unset, .unset, .unset, .unset, .unset, .unset, .unset, .unset] [])) st0_41 ?_
  have fc0_42 := ((fc0_22.other W0_37 (Or.inl ne_b0_1_b0_16)).other W0_41 (Or.inl ne_b0_1_b0_16))
  have fc0_43 := ((fc0_23.other W0_37 (Or.inl ne_b0_1_b0_16)).other W0_41 (Or.inl ne_b0_1_b0_16))
  have fc0_44 := ((fc0_24.other W0_37 (Or.inl ne_b0_1_b0_16)).other W0_41 (Or.inl ne_b0_1_b0_16))
  have fc0_45 := ((fc0_25.other W0_37 (Or.inl ne_b0_1_b0_16)).other W0_41 (Or.inl ne_b0_1_b0_16))
  have fc0_46 := ((fc0_26.other W0_37 ne_na0_3_b0_16).other W0_41 ne_na0_3_b0_16)
  have fc0_47 := ((fc0_27.other W0_37 ne_ta0_3_b0_16).other W0_41 ne_ta0_3_b0_16)
  have fc0_48 := (((((Ep0_7.ext E0_16).wr W0_17).wr W0_20).wr W0_37).wr W0_41)
  have fc0_49 := ((fc0_30.other W0_37 (Or.inl ne_b0_5_b0_16)).other W0_41 (Or.inl ne_b0_5_b0_16))
  have fc0_50 := ((fc0_31.other W0_37 (Or.inl ne_b0_5_b0_16)).other W0_41 (Or.inl ne_b0_5_b0_16))
  have fc0_51 := ((fc0_32.other W0_37 (Or.inl ne_b0_5_b0_16)).other W0_41 (Or.inl ne_b0_5_b0_16))
  have fc0_52 := ((fc0_33.other W0_37 (Or.inl ne_b0_5_b0_16)).other W0_41 (Or.inl ne_b0_5_b0_16))
  have fc0_53 := ((fc0_34.other W0_37 ne_na0_7_b0_16).other W0_41 ne_na0_7_b0_16)
  have fc0_54 := ((fc0_35.other W0_37 ne_ta0_7_b0_16).other W0_41 ne_ta0_7_b0_16)
  have fc0_55 := (((((En0_7.ext E0_16).wr W0_17).wr W0_20).wr W0_37).wr W0_41)
  have fc0_56 := (((((Et0_7.ext E0_16).wr W0_17).wr W0_20).wr W0_37).wr W0_41)
  obtain ⟨Lhd0_57, Xhd0_57, Nhd0_57⟩ := own_hide X0_41 N0_41
  obtain ⟨T0_58, h0_58, X0_58, e0_58, E0_58, A0_58, D0_58, -, st0_58⟩ := newO Xhd0_57 hx hZ hown (own_w hw 17 rfl) (own_w hw 18 rfl) (own_w hw 19 rfl) e0_41 (g := (mkF m 47 #[.val (.int p0), .val (.int p1), .val (.int p2), .val (.int p3), .val (.ref b0_1), .val (.ref b0_5), .val (.ref b0_16), .unset, .unset, .unset, .unset, .unset, .unset, .unset, .unset, .unset] [])) rfl (hb hby at_47) (by decide) (by decide)
  obtain ⟨b0_58, g0_58⟩ : ∃ z, z = h0_41.size := ⟨_, rfl⟩
  rw [← g0_58] at A0_58 D0_58 st0_58
  have ne_b0_1_b0_58 : b0_1 ≠ b0_58 := Nat.ne_of_lt (Nat.lt_of_lt_of_le ((fc0_21.wr W0_37).wr W0_41).lt (Nat.le_of_eq g0_58.symm))
  have ne_na0_3_b0_58 : na0_3 ≠ b0_58 := Nat.ne_of_lt (Nat.lt_of_lt_of_le fc0_46.lt (Nat.le_of_eq g0_58.symm))
  have ne_ta0_3_b0_58 : ta0_3 ≠ b0_58 := Nat.ne_of_lt (Nat.lt_of_lt_of_le fc0_47.lt (Nat.le_of_eq g0_58.symm))
  have ne_b0_5_b0_58 : b0_5 ≠ b0_58 := Nat.ne_of_lt (Nat.lt_of_lt_of_le fc0_48.lt (Nat.le_of_eq g0_58.symm))
  have ne_na0_7_b0_58 : na0_7 ≠ b0_58 := Nat.ne_of_lt (Nat.lt_of_lt_of_le fc0_53.lt (Nat.le_of_eq g0_58.symm))
  have ne_ta0_7_b0_58 : ta0_7 ≠ b0_58 := Nat.ne_of_lt (Nat.lt_of_lt_of_le fc0_54.lt (Nat.le_of_eq g0_58.symm))
  have ne_b0_16_b0_58 : b0_16 ≠ b0_58 := Nat.ne_of_lt (Nat.lt_of_lt_of_le V0_41.lt (Nat.le_of_eq g0_58.symm))
  have g_b0_58 : n0 ≤ b0_58 := Nat.le_trans (Nat.le_trans fc0_39 (Keep.of_wr W0_41).1) (Nat.le_of_eq g0_58.symm)
  have F_coder_b0_58 : Fld Z h0_58 b0_58 "java/lang/String" "coder" "B" (.int (0 : Int32)) := D0_58 (Or.inr (own_w hw 41 rfl)) (ty := .byte) (by decide)
  have F_value_b0_58 : Fld Z h0_58 b0_58 "java/lang/String" "value" "[B" .null := D0_58 (Or.inr (own_w hw 43 rfl)) (ty := (.array .byte)) (by decide)
  refine own_fw (A := T0_58.setTop (mkF m 50 #[.val (.int p0), .val (.int p1), .val (.int p2), .val (.int p3), .val (.ref b0_1), .val (.ref b0_5), .val (.ref b0_16), .unset, .unset, .unset, .unset, .unset, .unset, .unset, .unset, .unset] [(.ref b0_58)])) st0_58 ?_
  have fc0_59 := (Nat.le_trans (Nat.le_trans fc0_39 (Keep.of_wr W0_41).1) E0_58.1)
  refine own_fw (fun _ => ox_dup X0_58.here hx (hb hby at_50) rfl rfl) ?_
  refine own_fw (fun _ => ox_aload X0_58.here hx (hb hby at_51) rfl rfl) ?_
  refine own_ic X0_58 hx hZ hown (rmS1_4 l Z a0 hw [] b0_58 b0_16 k0_16 (nar .char (48 : Int32)) (nar .char (32 : Int32)) (nar .char (90 : Int32)) (nar .char (90 : Int32)) cc fv ra h0_58 n0 fc0_59 A0_58 F_value_b0_58 F_coder_b0_58 (V0_41.ext E0_58) ne_b0_16_b0_58 g_b0_58 (own_dle own_48) (own_dle own_a32c) (own_dle own_90) (own_dle own_90) ⟨((fc0_38.wr W0_41 g_b0_16).ext E0_58), S_c, hcc, S_f, hfv, S_r⟩) (own_w hw 20 rfl) (own_w hw 21 rfl) (own_w hw 22 rfl) (own_w hw 19 rfl) rfl (by decide) hml rfl e0_58 (hb hby at_53) rfl rfl (lenOf pd0_1 rfl) (W := 1) rfl (by decide) (by decide) (c' := 9) (s' := 84) rfl rfl (by decide) (by decide) ?_
  rintro _ T0_60 L0_60 X0_60 ⟨bc0_60, kb0_60, rfl, N0_60q, K0_60, E0_60, Sv0_60, Sc0_60, Vb0_60, zb0_60⟩
  have N0_60 := Fr.app Nhd0_57 N0_60q
  have ne_b0_1_bc0_60 : b0_1 ≠ bc0_60 := Nat.ne_of_lt (Nat.lt_of_lt_of_le (((fc0_21.wr W0_37).wr W0_41).ext E0_58).lt zb0_60)
  have ne_na0_3_bc0_60 : na0_3 ≠ bc0_60 := Nat.ne_of_lt (Nat.lt_of_lt_of_le (fc0_46.ext E0_58).lt zb0_60)
  have ne_ta0_3_bc0_60 : ta0_3 ≠ bc0_60 := Nat.ne_of_lt (Nat.lt_of_lt_of_le (fc0_47.ext E0_58).lt zb0_60)
  have ne_b0_5_bc0_60 : b0_5 ≠ bc0_60 := Nat.ne_of_lt (Nat.lt_of_lt_of_le (fc0_48.ext E0_58).lt zb0_60)
  have ne_na0_7_bc0_60 : na0_7 ≠ bc0_60 := Nat.ne_of_lt (Nat.lt_of_lt_of_le (fc0_53.ext E0_58).lt zb0_60)
  have ne_ta0_7_bc0_60 : ta0_7 ≠ bc0_60 := Nat.ne_of_lt (Nat.lt_of_lt_of_le (fc0_54.ext E0_58).lt zb0_60)
  have Vc0_60 : Arv Z T0_60.heap bc0_60 kb0_60 .byte (4 : Int32) [(.int (48 : Int32)), (.int (32 : Int32)), (.int (90 : Int32)), (.int (90 : Int32))] (.int 0) := own_arvc Vb0_60 (by rw [show nar .byte ((nar .char (48 : Int32)).toInt8.toInt32) = (48 : Int32) from by decide, show nar .byte ((nar .char (32 : Int32)).toInt8.toInt32) = (32 : Int32) from by decide, show nar .byte ((nar .char (90 : Int32)).toInt8.toInt32) = (90 : Int32) from by decide])
  have fc0_61 := (((fc0_38.wr W0_41 g_b0_16).ext E0_58).keep K0_60 (allS g_b0_58 all0))
  have fc0_62 := ((fc0_42.ext E0_58).keep K0_60 (fun q => ne_b0_1_b0_58 (List.mem_singleton.mp q)))
  have fc0_63 := ((fc0_43.ext E0_58).keep K0_60 (fun q => ne_b0_1_b0_58 (List.mem_singleton.mp q)))
  have fc0_64 := ((fc0_44.ext E0_58).keep K0_60 (fun q => ne_b0_1_b0_58 (List.mem_singleton.mp q)))
  have fc0_65 := ((fc0_45.ext E0_58).keep K0_60 (fun q => ne_b0_1_b0_58 (List.mem_singleton.mp q)))
  have fc0_66 := ((fc0_46.ext E0_58).keep K0_60 (fun q => ne_na0_3_b0_58 (List.mem_singleton.mp q)))
  have fc0_67 := ((fc0_47.ext E0_58).keep K0_60 (fun q => ne_ta0_3_b0_58 (List.mem_singleton.mp q)))
  have fc0_68 := ((fc0_49.ext E0_58).keep K0_60 (fun q => ne_b0_5_b0_58 (List.mem_singleton.mp q)))
  have fc0_69 := ((fc0_50.ext E0_58).keep K0_60 (fun q => ne_b0_5_b0_58 (List.mem_singleton.mp q)))
  have fc0_70 := ((fc0_51.ext E0_58).keep K0_60 (fun q => ne_b0_5_b0_58 (List.mem_singleton.mp q)))
  have fc0_71 := ((fc0_52.ext E0_58).keep K0_60 (fun q => ne_b0_5_b0_58 (List.mem_singleton.mp q)))
  have fc0_72 := ((fc0_53.ext E0_58).keep K0_60 (fun q => ne_na0_7_b0_58 (List.mem_singleton.mp q)))
  have fc0_73 := ((fc0_54.ext E0_58).keep K0_60 (fun q => ne_ta0_7_b0_58 (List.mem_singleton.mp q)))
  obtain ⟨Lhd0_75, Xhd0_75, Nhd0_75⟩ := own_hide X0_60 N0_60
  refine own_fw (fun _ => ox_astore Xhd0_75.here hx (hb hby at_56) rfl rfl (l' := #[.val (.int p0), .val (.int p1), .val (.int p2), .val (.int p3), .val (.ref b0_1), .val (.ref b0_5), .val (.ref b0_16), .val (.ref b0_58), .unset, .unset, .unset, .unset, .unset, .unset, .unset, .unset]) rfl) ?_
  have tail0 : ∀ (Tq0 : State) (Hq0 : Heap) (Lq0 : List Loc) (Xq0 : Stand p l e room_1 s m #[(.int p0), (.int p1), (.int p2), (.int p3)] below meth c Tq0 Lq0 60 400) (eq0 : Tq0.heap = Hq0) (Nq0 : Fr n0 Lq0) (zq0 : n0 ≤ Hq0.size) (Oq0 : Old Z n0 Hq0) (y1 y2 : Addr) (y3 y4 : Int32) (E1 : Exa Z Hq0 b0_1 "com/example/copperline/copperline/Program") (F1 : Fld Z Hq0 b0_1 "com/example/copperline/copperline/Program" "numbers" "[I" (.ref y1)) (F2 : Fld Z Hq0 b0_1 "com/example/copperline/copperline/Program" "texts" "[Ljava/lang/String;" (.ref y2)) (F3 : Fld Z Hq0 b0_1 "com/example/copperline/copperline/Program" "size" "I" (.int y3)) (F4 : Fld Z Hq0 b0_1 "com/example/copperline/copperline/Program" "version" "I" (.int y4)) (nb tb : Addr) (kn kt : ClassId) (vr : Int32) (PB : OwnPG Z Hq0 b0_5 nb tb kn kt (0 : Int32) vr (0 : Int32) (0 : Int32) .null .null) (Ez : Exa Z Hq0 b0_58 "java/lang/String") (Svz : Fld Z Hq0 b0_58 "java/lang/String" "value" "[B" (.ref bc0_60)) (Scz : Fld Z Hq0 b0_58 "java/lang/String" "coder" "B" (.int 0)) (Vz : Arv Z Hq0 bc0_60 kb0_60 .byte (4 : Int32) [(.int (48 : Int32)), (.int (32 : Int32)), (.int (90 : Int32)), (.int (90 : Int32))] (.int 0)) (g_nb : n0 ≤ nb) (g_tb : n0 ≤ tb) (nzn : bc0_60 ≠ nb) (nzt : bc0_60 ≠ tb), ∃ t o, Steps p.tables e below (Tq0.setTop (mkF m 106 #[.val (.int p0), .val (.int p1), .val (.int p2), .val (.int p3), .val (.ref b0_1), .val (.ref b0_5), .val (.ref b0_16), .val (.ref b0_58), .unset, .unset, .unset, .unset, .unset, .unset, .unset, .unset] [])) t ∧ PP t o := by
    intro Tq0 Hq0 Lq0 Xq0 eq0 Nq0 zq0 Oq0 y1 y2 y3 y4 E1 F1 F2 F3 F4 nb tb kn kt vr  PB  Ez Svz Scz Vz g_nb g_tb nzn nzt
    obtain ⟨Epq0, Fnq0, Ftq0, Fsq0, Fvq0, Vnq0, Vtq0, Enq0, Etq0, Ovq0, ntq0⟩ := PB
    have m0q0 : b0_1 ≠ nb := Exa.neArv E1 Vnq0 (own_w hw 1 rfl)
    have m1q0 : b0_1 ≠ tb := Exa.neArv E1 Vtq0 (own_w hw 1 rfl)
    refine own_fw (fun _ => ox_aload Xq0.here hx (hb hby at_106) rfl rfl) ?_
    refine own_vc Xq0 hx hZ hown (rm8 l Z a0 hw [] b0_1 y4 Hq0 n0 zq0 F4) (own_w hw 44 rfl) (own_w hw 45 rfl) (own_w hw 47 rfl) (own_w hw 46 rfl) (own_w hw 48 rfl) (own_w hw 2 rfl) (by decide) hml rfl E1 eq0 (hb hby at_108) rfl rfl (lenOf pd0_2 rfl) (W := 0) rfl (by decide) (by decide) (c' := 60) (s' := 400) rfl rfl (by decide) (by decide) ?_
    rintro _ T0_76 L0_76 X0_76 ⟨rfl, N0_76q, e0_76⟩
    have N0_76 := Fr.app Nq0 N0_76q
    obtain ⟨Lhd0_77, Xhd0_77, Nhd0_77⟩ := own_hide X0_76 N0_76
    refine own_fw (fun _ => ox_istore Xhd0_77.here hx (hb hby at_111) rfl (l' := #[.val (.int p0), .val (.int p1), .val (.int p2), .val (.int p3), .val (.ref b0_1), .val (.ref b0_5), .val (.ref b0_16), .val (.ref b0_58), .val (.int y4), .unset, .unset, .unset, .unset, .unset, .unset, .unset]) rfl) ?_
    refine own_fw (fun _ => ox_aload Xhd0_77.here hx (hb hby at_113) rfl rfl) ?_
    refine own_vc Xhd0_77 hx hZ hown (rm8 l Z a0 hw [] b0_5 vr Hq0 n0 zq0 Fvq0) (own_w hw 44 rfl) (own_w hw 45 rfl) (own_w hw 47 rfl) (own_w hw 46 rfl) (own_w hw 48 rfl) (own_w hw 2 rfl) (by decide) hml rfl Epq0 e0_76 (hb hby at_115) rfl rfl (lenOf pd0_2 rfl) (W := 0) rfl (by decide) (by decide) (c' := 60) (s' := 400) rfl rfl (by decide) (by decide) ?_
    rintro _ T0_78 L0_78 X0_78 ⟨rfl, N0_78q, e0_78⟩
    have N0_78 := Fr.app Nhd0_77 N0_78q
    obtain ⟨Lhd0_79, Xhd0_79, Nhd0_79⟩ := own_hide X0_78 N0_78
    refine own_fw (fun _ => ox_istore Xhd0_79.here hx (hb hby at_118) rfl (l' := #[.val (.int p0), .val (.int p1), .val (.int p2), .val (.int p3), .val (.ref b0_1), .val (.ref b0_5), .val (.ref b0_16), .val (.ref b0_58), .val (.int y4), .val (.int vr), .unset, .unset, .unset, .unset, .unset, .unset]) rfl) ?_
    refine own_fw (fun _ => ox_aload Xhd0_79.here hx (hb hby at_120) rfl rfl) ?_
    refine own_vc Xhd0_79 hx hZ hown (rm9 l Z a0 hw [] b0_5 (0 : Int32) Hq0 n0 zq0 Fsq0) (own_w hw 51 rfl) (own_w hw 52 rfl) (own_w hw 54 rfl) (own_w hw 53 rfl) (own_w hw 55 rfl) (own_w hw 2 rfl) (by decide) hml rfl Epq0 e0_78 (hb hby at_122) rfl rfl (lenOf pd0_2 rfl) (W := 0) rfl (by decide) (by decide) (c' := 60) (s' := 400) rfl rfl (by decide) (by decide) ?_
    rintro _ T0_80 L0_80 X0_80 ⟨rfl, N0_80q, e0_80⟩
    have N0_80 := Fr.app Nhd0_79 N0_80q
    obtain ⟨Lhd0_81, Xhd0_81, Nhd0_81⟩ := own_hide X0_80 N0_80
    refine own_fw (fun _ => ox_istore Xhd0_81.here hx (hb hby at_125) rfl (l' := #[.val (.int p0), .val (.int p1), .val (.int p2), .val (.int p3), .val (.ref b0_1), .val (.ref b0_5), .val (.ref b0_16), .val (.ref b0_58), .val (.int y4), .val (.int vr), .val (.int (0 : Int32)), .unset, .unset, .unset, .unset, .unset]) rfl) ?_
    refine own_fw (fun _ => ox_aload Xhd0_81.here hx (hb hby at_127) rfl rfl) ?_
    refine own_fw (fun _ => ox_aload Xhd0_81.here hx (hb hby at_129) rfl rfl) ?_
    refine own_vc Xhd0_81 hx hZ hown (rm10 l Z a0 hw [] b0_1 b0_5 nb tb kn kt (0 : Int32) vr (0 : Int32) (0 : Int32) .null .null y1 y2 y3 y4 Hq0 n0 zq0 ⟨Epq0, Fnq0, Ftq0, Fsq0, Fvq0, Vnq0, Vtq0, Enq0, Etq0, Ovq0, ntq0⟩ E1 F1 F2 F3 F4 ne_b0_1_b0_5 g_b0_1) (own_w hw 58 rfl) (own_w hw 59 rfl) (own_w hw 61 rfl) (own_w hw 60 rfl) (own_w hw 62 rfl) (own_w hw 2 rfl) (by decide) hml rfl E1 e0_80 (hb hby at_131) rfl rfl (lenOf pd0_3 rfl) (W := 0) rfl (by decide) (by decide) (c' := 62) (s' := 432) rfl rfl (by decide) (by decide) ?_
    rintro _ T0_82 L0_82 X0_82 ⟨na0_82, ta0_82, rfl, N0_82q, K0_82, ⟨Ep0_82, Fn0_82, Ft0_82, Fs0_82, Fv0_82, Vn0_82, Vt0_82, En0_82, Et0_82, Ov0_82, nt0_82⟩, zn0_82, zt0_82⟩
    have N0_82 := Fr.app Nhd0_81 N0_82q
    have fc0_83 := (Fnq0.keep K0_82 (fun q => (Ne.symm ne_b0_1_b0_5) (List.mem_singleton.mp q)))
    have fc0_84 := (Ftq0.keep K0_82 (fun q => (Ne.symm ne_b0_1_b0_5) (List.mem_singleton.mp q)))
    have fc0_85 := (Fsq0.keep K0_82 (fun q => (Ne.symm ne_b0_1_b0_5) (List.mem_singleton.mp q)))
    have fc0_86 := (Fvq0.keep K0_82 (fun q => (Ne.symm ne_b0_1_b0_5) (List.mem_singleton.mp q)))
    have fc0_87 := (Vnq0.keep K0_82 (fun q => (Ne.symm m0q0) (List.mem_singleton.mp q)))
    have fc0_88 := (Vtq0.keep K0_82 (fun q => (Ne.symm m1q0) (List.mem_singleton.mp q)))
    have fc0_89 := (Svz.keep K0_82 (fun q => (Ne.symm ne_b0_1_b0_58) (List.mem_singleton.mp q)))
    have fc0_90 := (Scz.keep K0_82 (fun q => (Ne.symm ne_b0_1_b0_58) (List.mem_singleton.mp q)))
    have fc0_91 := (Vz.keep K0_82 (fun q => (Ne.symm ne_b0_1_bc0_60) (List.mem_singleton.mp q)))
    obtain ⟨Lhd0_92, Xhd0_92, Nhd0_92⟩ := own_hide X0_82 N0_82
    refine own_fw (fun _ => ox_aload Xhd0_92.here hx (hb hby at_134) rfl rfl) ?_
    refine own_vc Xhd0_92 hx hZ hown (rm9 l Z a0 hw [] b0_1 (0 : Int32) T0_82.heap n0 (Nat.le_trans zq0 K0_82.1) Fs0_82) (own_w hw 51 rfl) (own_w hw 52 rfl) (own_w hw 54 rfl) (own_w hw 53 rfl) (own_w hw 55 rfl) (own_w hw 2 rfl) (by decide) hml rfl Ep0_82 rfl (hb hby at_136) rfl rfl (lenOf pd0_2 rfl) (W := 0) rfl (by decide) (by decide) (c' := 62) (s' := 432) rfl rfl (by decide) (by decide) ?_
    rintro _ T0_93 L0_93 X0_93 ⟨rfl, N0_93q, e0_93⟩
    have N0_93 := Fr.app Nhd0_92 N0_93q
    obtain ⟨Lhd0_94, Xhd0_94, Nhd0_94⟩ := own_hide X0_93 N0_93
    refine own_fw (fun _ => ox_iload Xhd0_94.here hx (hb hby at_139) rfl) ?_
    refine own_fw (fun _ => ox_icmpNo Xhd0_94.here hx (hb hby at_141) rfl (teq (rfl : (0 : Int32) = (0 : Int32))).2) ?_
    refine own_fw (fun _ => ox_aload Xhd0_94.here hx (hb hby at_144) rfl rfl) ?_
    refine own_vc Xhd0_94 hx hZ hown (rm9 l Z a0 hw [] b0_5 (0 : Int32) T0_82.heap n0 (Nat.le_trans zq0 K0_82.1) fc0_85) (own_w hw 51 rfl) (own_w hw 52 rfl) (own_w hw 54 rfl) (own_w hw 53 rfl) (own_w hw 55 rfl) (own_w hw 2 rfl) (by decide) hml rfl (Epq0.keep K0_82) e0_93 (hb hby at_146) rfl rfl (lenOf pd0_2 rfl) (W := 0) rfl (by decide) (by decide) (c' := 62) (s' := 432) rfl rfl (by decide) (by decide) ?_
    rintro _ T0_95 L0_95 X0_95 ⟨rfl, N0_95q, e0_95⟩
    have N0_95 := Fr.app Nhd0_94 N0_95q
    obtain ⟨Lhd0_96, Xhd0_96, Nhd0_96⟩ := own_hide X0_95 N0_95
    refine own_fw (fun _ => ox_iload Xhd0_96.here hx (hb hby at_149) rfl) ?_
    refine own_fw (fun _ => ox_icmpNo Xhd0_96.here hx (hb hby at_151) rfl (teq (rfl : (0 : Int32) = (0 : Int32))).2) ?_
    refine own_fw (fun _ => ox_aload Xhd0_96.here hx (hb hby at_154) rfl rfl) ?_
    refine own_vc Xhd0_96 hx hZ hown (rm8 l Z a0 hw [] b0_1 (y4 + (1 : Int32)) T0_82.heap n0 (Nat.le_trans zq0 K0_82.1) Fv0_82) (own_w hw 44 rfl) (own_w hw 45 rfl) (own_w hw 47 rfl) (own_w hw 46 rfl) (own_w hw 48 rfl) (own_w hw 2 rfl) (by decide) hml rfl Ep0_82 e0_95 (hb hby at_156) rfl rfl (lenOf pd0_2 rfl) (W := 0) rfl (by decide) (by decide) (c' := 62) (s' := 432) rfl rfl (by decide) (by decide) ?_
    rintro _ T0_97 L0_97 X0_97 ⟨rfl, N0_97q, e0_97⟩
    have N0_97 := Fr.app Nhd0_96 N0_97q
    obtain ⟨Lhd0_98, Xhd0_98, Nhd0_98⟩ := own_hide X0_97 N0_97
    refine own_fw (fun _ => ox_iload Xhd0_98.here hx (hb hby at_159) rfl) ?_
    refine own_fw (fun _ => ox_iconst Xhd0_98.here hx (hb hby at_161)) ?_
    refine own_fw (fun _ => ox_iadd Xhd0_98.here hx (hb hby at_162) rfl) ?_
    refine own_fw (fun _ => ox_icmpNo Xhd0_98.here hx (hb hby at_163) rfl (teq (rfl : (y4 + (1 : Int32)) = (y4 + (1 : Int32)))).2) ?_
    refine own_fw (fun _ => ox_aload Xhd0_98.here hx (hb hby at_166) rfl rfl) ?_
    refine own_vc Xhd0_98 hx hZ hown (rm8 l Z a0 hw [] b0_5 vr T0_82.heap n0 (Nat.le_trans zq0 K0_82.1) fc0_86) (own_w hw 44 rfl) (own_w hw 45 rfl) (own_w hw 47 rfl) (own_w hw 46 rfl) (own_w hw 48 rfl) (own_w hw 2 rfl) (by decide) hml rfl (Epq0.keep K0_82) e0_97 (hb hby at_168) rfl rfl (lenOf pd0_2 rfl) (W := 0) rfl (by decide) (by decide) (c' := 62) (s' := 432) rfl rfl (by decide) (by decide) ?_
    rintro _ T0_99 L0_99 X0_99 ⟨rfl, N0_99q, e0_99⟩
    have N0_99 := Fr.app Nhd0_98 N0_99q
    obtain ⟨Lhd0_100, Xhd0_100, Nhd0_100⟩ := own_hide X0_99 N0_99
    refine own_fw (fun _ => ox_iload Xhd0_100.here hx (hb hby at_171) rfl) ?_
    refine own_fw (fun _ => ox_icmpNo Xhd0_100.here hx (hb hby at_173) rfl (teq (rfl : vr = vr)).2) ?_
    refine own_fw (fun _ => ox_iconst Xhd0_100.here hx (hb hby at_176)) ?_
    refine own_fw (fun _ => ox_goto Xhd0_100.here hx (pc0 := 177) (pc' := 181) rfl (hb hby at_177) (by decide) (by decide)) ?_
    refine own_fw (fun _ => ox_istore Xhd0_100.here hx (hb hby at_181) rfl (l' := #[.val (.int p0), .val (.int p1), .val (.int p2), .val (.int p3), .val (.ref b0_1), .val (.ref b0_5), .val (.ref b0_16), .val (.ref b0_58), .val (.int y4), .val (.int vr), .val (.int (0 : Int32)), .val (.int (1 : Int32)), .unset, .unset, .unset, .unset]) rfl) ?_
    refine own_fw (fun _ => ox_iload Xhd0_100.here hx (hb hby at_183) rfl) ?_
    refine own_fw (fun _ => ox_ifNo Xhd0_100.here hx (hb hby at_185) rfl ((if0 _ _).trans (feq (by decide : ¬ ((1 : Int32) = (0 : Int32)))).1)) ?_
    refine own_fw (fun _ => ox_aload Xhd0_100.here hx (hb hby at_188) rfl rfl) ?_
    refine own_fw (fun _ => ox_aload Xhd0_100.here hx (hb hby at_190) rfl rfl) ?_
    refine own_fw (fun _ => ox_iconst Xhd0_100.here hx (hb hby at_192)) ?_
    refine own_fw (fun _ => ox_iload Xhd0_100.here hx (hb hby at_193) rfl) ?_
    refine own_sc Xhd0_100 hx hZ hown (rmSM_ge l Z a0 hw [] b0_1 b0_5 (0 : Int32) (0 : Int32) T0_82.heap n0 (Nat.le_trans zq0 K0_82.1) (by decide)) (own_w hw 78 rfl) (own_w hw 79 rfl) (own_w hw 81 rfl) (own_w hw 80 rfl) (by decide) hml rfl e0_99 (hb hby at_195) rfl rfl (lenOf pd0_4 rfl) (W := 0) rfl (by decide) (by decide) (c' := 62) (s' := 432) rfl rfl (by decide) (by decide) ?_
    rintro _ T0_101 L0_101 X0_101 ⟨rfl, N0_101q, e0_101⟩
    have N0_101 := Fr.app Nhd0_100 N0_101q
    obtain ⟨Lhd0_102, Xhd0_102, Nhd0_102⟩ := own_hide X0_101 N0_101
    refine own_fw (fun _ => ox_ifNo Xhd0_102.here hx (hb hby at_198) rfl ((if0 _ _).trans (feq (by decide : ¬ ((1 : Int32) = (0 : Int32)))).1)) ?_
    refine own_fw (fun _ => ox_aload Xhd0_102.here hx (hb hby at_201) rfl rfl) ?_
    refine own_fw (fun _ => ox_aload Xhd0_102.here hx (hb hby at_203) rfl rfl) ?_
    refine own_fw (fun _ => ox_iconst Xhd0_102.here hx (hb hby at_205)) ?_
    refine own_fw (fun _ => ox_iload Xhd0_102.here hx (hb hby at_206) rfl) ?_
    refine own_sc Xhd0_102 hx hZ hown (rmSM_ge l Z a0 hw [] b0_1 b0_5 (1 : Int32) (0 : Int32) T0_82.heap n0 (Nat.le_trans zq0 K0_82.1) (by decide)) (own_w hw 78 rfl) (own_w hw 79 rfl) (own_w hw 81 rfl) (own_w hw 80 rfl) (by decide) hml rfl e0_101 (hb hby at_208) rfl rfl (lenOf pd0_4 rfl) (W := 0) rfl (by decide) (by decide) (c' := 62) (s' := 432) rfl rfl (by decide) (by decide) ?_
    rintro _ T0_103 L0_103 X0_103 ⟨rfl, N0_103q, e0_103⟩
    have N0_103 := Fr.app Nhd0_102 N0_103q
    obtain ⟨Lhd0_104, Xhd0_104, Nhd0_104⟩ := own_hide X0_103 N0_103
    refine own_fw (fun _ => ox_ifNo Xhd0_104.here hx (hb hby at_211) rfl ((if0 _ _).trans (feq (by decide : ¬ ((1 : Int32) = (0 : Int32)))).1)) ?_
    refine own_fw (fun _ => ox_iconst Xhd0_104.here hx (hb hby at_214)) ?_
    refine own_fw (fun _ => ox_goto Xhd0_104.here hx (pc0 := 215) (pc' := 219) rfl (hb hby at_215) (by decide) (by decide)) ?_
    refine own_fw (fun _ => ox_istore Xhd0_104.here hx (hb hby at_219) rfl (l' := #[.val (.int p0), .val (.int p1), .val (.int p2), .val (.int p3), .val (.ref b0_1), .val (.ref b0_5), .val (.ref b0_16), .val (.ref b0_58), .val (.int y4), .val (.int vr), .val (.int (0 : Int32)), .val (.int (1 : Int32)), .unset, .unset, .unset, .unset]) rfl) ?_
    refine own_fw (fun _ => ox_iload Xhd0_104.here hx (hb hby at_221) rfl) ?_
    refine own_fw (fun _ => ox_ifYes Xhd0_104.here hx (pc0 := 223) (pc' := 228) rfl (hb hby at_223) rfl ((if0 _ _).trans (feq (by decide : ¬ ((1 : Int32) = (0 : Int32)))).2) (by decide) (by decide)) ?_
    refine own_fw (fun _ => ox_iload Xhd0_104.here hx (hb hby at_228) rfl) ?_
    refine own_fw (fun _ => ox_ifYes Xhd0_104.here hx (pc0 := 230) (pc' := 242) rfl (hb hby at_230) rfl ((if0 _ _).trans (flt (Int32.lt_irrefl : ¬ ((0 : Int32) < (0 : Int32)))).2.2.2) (by decide) (by decide)) ?_
    refine own_fw (fun _ => ox_iconst Xhd0_104.here hx (hb hby at_242)) ?_
    refine own_fw (fun _ => ox_istore Xhd0_104.here hx (hb hby at_243) rfl (l' := #[.val (.int p0), .val (.int p1), .val (.int p2), .val (.int p3), .val (.ref b0_1), .val (.ref b0_5), .val (.ref b0_16), .val (.ref b0_58), .val (.int y4), .val (.int vr), .val (.int (0 : Int32)), .val (.int (1 : Int32)), .val (.int (-1 : Int32)), .unset, .unset, .unset]) rfl) ?_
    refine own_fw (fun _ => ox_iload Xhd0_104.here hx (hb hby at_245) rfl) ?_
    refine own_fw (fun _ => ox_ifYes Xhd0_104.here hx (pc0 := 247) (pc' := 259) rfl (hb hby at_247) rfl ((if0 _ _).trans (flt (Int32.lt_irrefl : ¬ ((0 : Int32) < (0 : Int32)))).2.2.2) (by decide) (by decide)) ?_
    refine own_fw (fun _ => ox_aconstNull Xhd0_104.here hx (hb hby at_259)) ?_
    refine own_fw (fun _ => ox_astore Xhd0_104.here hx (hb hby at_260) rfl rfl (l' := #[.val (.int p0), .val (.int p1), .val (.int p2), .val (.int p3), .val (.ref b0_1), .val (.ref b0_5), .val (.ref b0_16), .val (.ref b0_58), .val (.int y4), .val (.int vr), .val (.int (0 : Int32)), .val (.int (1 : Int32)), .val (.int (-1 : Int32)), .val .null, .unset, .unset]) rfl) ?_
    refine own_fw (fun _ => ox_iload Xhd0_104.here hx (hb hby at_262) rfl) ?_
    refine own_fw (fun _ => ox_iconst Xhd0_104.here hx (hb hby at_264)) ?_
    refine own_fw (fun _ => ox_icmpYes Xhd0_104.here hx (pc0 := 265) (pc' := 277) rfl (hb hby at_265) rfl (flt (by decide : ¬ ((1 : Int32) < (0 : Int32)))).2.2.2 (by decide) (by decide)) ?_
    refine own_fw (fun _ => ox_iconst Xhd0_104.here hx (hb hby at_277)) ?_
    refine own_fw (fun _ => ox_istore Xhd0_104.here hx (hb hby at_278) rfl (l' := #[.val (.int p0), .val (.int p1), .val (.int p2), .val (.int p3), .val (.ref b0_1), .val (.ref b0_5), .val (.ref b0_16), .val (.ref b0_58), .val (.int y4), .val (.int vr), .val (.int (0 : Int32)), .val (.int (1 : Int32)), .val (.int (-1 : Int32)), .val .null, .val (.int (-1 : Int32)), .unset]) rfl) ?_
    refine own_fw (fun _ => ox_iload Xhd0_104.here hx (hb hby at_280) rfl) ?_
    refine own_fw (fun _ => ox_iconst Xhd0_104.here hx (hb hby at_282)) ?_
    refine own_fw (fun _ => ox_icmpYes Xhd0_104.here hx (pc0 := 283) (pc' := 295) rfl (hb hby at_283) rfl (flt (by decide : ¬ ((1 : Int32) < (0 : Int32)))).2.2.2 (by decide) (by decide)) ?_
    refine own_fw (fun _ => ox_aconstNull Xhd0_104.here hx (hb hby at_295)) ?_
    refine own_fw (fun _ => ox_astore Xhd0_104.here hx (hb hby at_296) rfl rfl (l' := #[.val (.int p0), .val (.int p1), .val (.int p2), .val (.int p3), .val (.ref b0_1), .val (.ref b0_5), .val (.ref b0_16), .val (.ref b0_58), .val (.int y4), .val (.int vr), .val (.int (0 : Int32)), .val (.int (1 : Int32)), .val (.int (-1 : Int32)), .val .null, .val (.int (-1 : Int32)), .val .null]) rfl) ?_
    refine own_fw (fun _ => ox_aload Xhd0_104.here hx (hb hby at_298) rfl rfl) ?_
    refine own_fw (fun _ => ox_aload Xhd0_104.here hx (hb hby at_300) rfl rfl) ?_
    refine own_vc Xhd0_104 hx hZ hown (rmEN_Z0 l Z a0 hw [] b0_5 b0_58 nb tb kn kt vr bc0_60 kb0_60 cc fv ra T0_82.heap n0 (Nat.le_trans zq0 K0_82.1) ⟨(Epq0.keep K0_82), fc0_83, fc0_84, fc0_85, fc0_86, fc0_87, fc0_88, (Enq0.keep K0_82), (Etq0.keep K0_82), Ovq0, ntq0⟩ (Ez.keep K0_82) fc0_89 fc0_90 fc0_91 g_b0_5 g_nb g_tb ⟨(Oq0.keep K0_82 (allS g_b0_1 all0)), S_c, hcc, S_f, hfv, S_r⟩) (own_w hw 82 rfl) (own_w hw 83 rfl) (own_w hw 85 rfl) (own_w hw 84 rfl) (own_w hw 86 rfl) (own_w hw 2 rfl) (by decide) hml rfl (Epq0.keep K0_82) e0_103 (hb hby at_302) rfl rfl (lenOf pd0_5 rfl) (W := 0) rfl (by decide) (by decide) (c' := 65) (s' := 443) rfl rfl (by decide) (by decide) ?_
    rintro _ T0_105 L0_105 X0_105 ⟨rfl, N0_105q, K0_105, R0_105⟩
    have N0_105 := Fr.app Nhd0_104 N0_105q
    have fc0_112 := (Fs0_82.keep K0_105 (by simp only [List.mem_cons, List.not_mem_nil, or_false, not_or]; exact ⟨ne_b0_1_b0_5, m0q0, m1q0⟩))
    have fc0_113 := (Fv0_82.keep K0_105 (by simp only [List.mem_cons, List.not_mem_nil, or_false, not_or]; exact ⟨ne_b0_1_b0_5, m0q0, m1q0⟩))
    obtain ⟨Lhd0_116, Xhd0_116, Nhd0_116⟩ := own_hide X0_105 N0_105
    refine own_fw (fun _ => ox_pop Xhd0_116.here hx (hb hby at_305) rfl rfl) ?_
    refine own_fw (fun _ => ox_aload Xhd0_116.here hx (hb hby at_306) rfl rfl) ?_
    refine own_vc Xhd0_116 hx hZ hown (rm9 l Z a0 hw [] b0_1 (0 : Int32) T0_105.heap n0 (Nat.le_trans (Nat.le_trans zq0 K0_82.1) K0_105.1) fc0_112) (own_w hw 51 rfl) (own_w hw 52 rfl) (own_w hw 54 rfl) (own_w hw 53 rfl) (own_w hw 55 rfl) (own_w hw 2 rfl) (by decide) hml rfl (Ep0_82.keep K0_105) rfl (hb hby at_308) rfl rfl (lenOf pd0_2 rfl) (W := 0) rfl (by decide) (by decide) (c' := 65) (s' := 443) rfl rfl (by decide) (by decide) ?_
    rintro _ T0_117 L0_117 X0_117 ⟨rfl, N0_117q, e0_117⟩
    have N0_117 := Fr.app Nhd0_116 N0_117q
    obtain ⟨Lhd0_118, Xhd0_118, Nhd0_118⟩ := own_hide X0_117 N0_117
    refine own_fw (fun _ => ox_iload Xhd0_118.here hx (hb hby at_311) rfl) ?_
    refine own_fw (fun _ => ox_icmpNo Xhd0_118.here hx (hb hby at_313) rfl (teq (rfl : (0 : Int32) = (0 : Int32))).2) ?_
    refine own_fw (fun _ => ox_aload Xhd0_118.here hx (hb hby at_316) rfl rfl) ?_
    refine own_vc Xhd0_118 hx hZ hown (rm8 l Z a0 hw [] b0_1 (y4 + (1 : Int32)) T0_105.heap n0 (Nat.le_trans (Nat.le_trans zq0 K0_82.1) K0_105.1) fc0_113) (own_w hw 44 rfl) (own_w hw 45 rfl) (own_w hw 47 rfl) (own_w hw 46 rfl) (own_w hw 48 rfl) (own_w hw 2 rfl) (by decide) hml rfl (Ep0_82.keep K0_105) e0_117 (hb hby at_318) rfl rfl (lenOf pd0_2 rfl) (W := 0) rfl (by decide) (by decide) (c' := 65) (s' := 443) rfl rfl (by decide) (by decide) ?_
    rintro _ T0_119 L0_119 X0_119 ⟨rfl, N0_119q, e0_119⟩
    have N0_119 := Fr.app Nhd0_118 N0_119q
    obtain ⟨Lhd0_120, Xhd0_120, Nhd0_120⟩ := own_hide X0_119 N0_119
    refine own_fw (fun _ => ox_iload Xhd0_120.here hx (hb hby at_321) rfl) ?_
    refine own_fw (fun _ => ox_iconst Xhd0_120.here hx (hb hby at_323)) ?_
    refine own_fw (fun _ => ox_iadd Xhd0_120.here hx (hb hby at_324) rfl) ?_
    refine own_fw (fun _ => ox_icmpNo Xhd0_120.here hx (hb hby at_325) rfl (teq (rfl : (y4 + (1 : Int32)) = (y4 + (1 : Int32)))).2) ?_
    refine own_fw (fun _ => ox_aload Xhd0_120.here hx (hb hby at_328) rfl rfl) ?_
    refine own_fw (fun _ => ox_iconst Xhd0_120.here hx (hb hby at_330)) ?_
    refine own_fw (fun _ => ox_iload Xhd0_120.here hx (hb hby at_331) rfl) ?_
    refine own_fw (fun _ => ox_iload Xhd0_120.here hx (hb hby at_333) rfl) ?_
    refine own_fw (fun _ => ox_aload Xhd0_120.here hx (hb hby at_335) rfl rfl) ?_
    refine own_sc Xhd0_120 hx hZ hown (rmKP_ge l Z a0 hw [] b0_1 (0 : Int32) (0 : Int32) (-1 : Int32) T0_105.heap n0 (Nat.le_trans (Nat.le_trans zq0 K0_82.1) K0_105.1) (by decide)) (own_w hw 219 rfl) (own_w hw 220 rfl) (own_w hw 221 rfl) (own_w hw 80 rfl) (by decide) hml rfl e0_119 (hb hby at_337) rfl rfl (lenOf pd0_6 rfl) (W := 0) rfl (by decide) (by decide) (c' := 65) (s' := 443) rfl rfl (by decide) (by decide) ?_
    rintro _ T0_121 L0_121 X0_121 ⟨rfl, N0_121q, e0_121⟩
    have N0_121 := Fr.app Nhd0_120 N0_121q
    obtain ⟨Lhd0_122, Xhd0_122, Nhd0_122⟩ := own_hide X0_121 N0_121
    refine own_fw (fun _ => ox_ifNo Xhd0_122.here hx (hb hby at_340) rfl ((if0 _ _).trans (feq (by decide : ¬ ((1 : Int32) = (0 : Int32)))).1)) ?_
    refine own_fw (fun _ => ox_aload Xhd0_122.here hx (hb hby at_343) rfl rfl) ?_
    refine own_fw (fun _ => ox_iconst Xhd0_122.here hx (hb hby at_345)) ?_
    refine own_fw (fun _ => ox_iload Xhd0_122.here hx (hb hby at_346) rfl) ?_
    refine own_fw (fun _ => ox_iload Xhd0_122.here hx (hb hby at_348) rfl) ?_
    refine own_fw (fun _ => ox_aload Xhd0_122.here hx (hb hby at_350) rfl rfl) ?_
    refine own_sc Xhd0_122 hx hZ hown (rmKP_ge l Z a0 hw [] b0_1 (1 : Int32) (0 : Int32) (-1 : Int32) T0_105.heap n0 (Nat.le_trans (Nat.le_trans zq0 K0_82.1) K0_105.1) (by decide)) (own_w hw 219 rfl) (own_w hw 220 rfl) (own_w hw 221 rfl) (own_w hw 80 rfl) (by decide) hml rfl e0_121 (hb hby at_352) rfl rfl (lenOf pd0_6 rfl) (W := 0) rfl (by decide) (by decide) (c' := 65) (s' := 443) rfl rfl (by decide) (by decide) ?_
    rintro _ T0_123 L0_123 X0_123 ⟨rfl, N0_123q, e0_123⟩
    have N0_123 := Fr.app Nhd0_122 N0_123q
    obtain ⟨Lhd0_124, Xhd0_124, Nhd0_124⟩ := own_hide X0_123 N0_123
    refine own_fw (fun _ => ox_ifNo Xhd0_124.here hx (hb hby at_355) rfl ((if0 _ _).trans (feq (by decide : ¬ ((1 : Int32) = (0 : Int32)))).1)) ?_
    refine own_fw (fun _ => ox_iconst Xhd0_124.here hx (hb hby at_358)) ?_
    refine own_fw (fun _ => ox_goto Xhd0_124.here hx (pc0 := 359) (pc' := 363) rfl (hb hby at_359) (by decide) (by decide)) ?_
    exact own_PP hPP (own_leaf Xhd0_124 (v := some (.int (nar .boolean (1 : Int32)))) (own_ret Bd.returns) (BodyLoose.notSynchronized Bd) e0_123 (⟨rfl, Nhd0_124⟩) (by decide) (by decide) (fun fs hr => retN Xhd0_124 hx (t := .boolean) Bd.returns (by simp) (hb hby at_363) hr))
  have tail1 : ∀ (Tq1 : State) (Hq1 : Heap) (Lq1 : List Loc) (Xq1 : Stand p l e room_1 s m #[(.int p0), (.int p1), (.int p2), (.int p3)] below meth c Tq1 Lq1 60 400) (eq1 : Tq1.heap = Hq1) (Nq1 : Fr n0 Lq1) (zq1 : n0 ≤ Hq1.size) (Oq1 : Old Z n0 Hq1) (y1 y2 : Addr) (y3 y4 : Int32) (E1 : Exa Z Hq1 b0_1 "com/example/copperline/copperline/Program") (F1 : Fld Z Hq1 b0_1 "com/example/copperline/copperline/Program" "numbers" "[I" (.ref y1)) (F2 : Fld Z Hq1 b0_1 "com/example/copperline/copperline/Program" "texts" "[Ljava/lang/String;" (.ref y2)) (F3 : Fld Z Hq1 b0_1 "com/example/copperline/copperline/Program" "size" "I" (.int y3)) (F4 : Fld Z Hq1 b0_1 "com/example/copperline/copperline/Program" "version" "I" (.int y4)) (nb tb : Addr) (kn kt : ClassId) (vr : Int32) (a : Int32) (t0 : Addr) (PB : OwnPG Z Hq1 b0_5 nb tb kn kt (1 : Int32) vr a (0 : Int32) (.ref t0) .null) (Et0 : Exa Z Hq1 t0 "java/lang/String") (ha : ¬ a < (0 : Int32)) (Ez : Exa Z Hq1 b0_58 "java/lang/String") (Svz : Fld Z Hq1 b0_58 "java/lang/String" "value" "[B" (.ref bc0_60)) (Scz : Fld Z Hq1 b0_58 "java/lang/String" "coder" "B" (.int 0)) (Vz : Arv Z Hq1 bc0_60 kb0_60 .byte (4 : Int32) [(.int (48 : Int32)), (.int (32 : Int32)), (.int (90 : Int32)), (.int (90 : Int32))] (.int 0)) (g_nb : n0 ≤ nb) (g_tb : n0 ≤ tb) (nzn : bc0_60 ≠ nb) (nzt : bc0_60 ≠ tb), ∃ t o, Steps p.tables e below (Tq1.setTop (mkF m 106 #[.val (.int p0), .val (.int p1), .val (.int p2), .val (.int p3), .val (.ref b0_1), .val (.ref b0_5), .val (.ref b0_16), .val (.ref b0_58), .unset, .unset, .unset, .unset, .unset, .unset, .unset, .unset] [])) t ∧ PP t o := by
    intro Tq1 Hq1 Lq1 Xq1 eq1 Nq1 zq1 Oq1 y1 y2 y3 y4 E1 F1 F2 F3 F4 nb tb kn kt vr a t0 PB Et0 ha Ez Svz Scz Vz g_nb g_tb nzn nzt
    obtain ⟨Epq1, Fnq1, Ftq1, Fsq1, Fvq1, Vnq1, Vtq1, Enq1, Etq1, Ovq1, ntq1⟩ := PB
    have m0q1 : b0_1 ≠ nb := Exa.neArv E1 Vnq1 (own_w hw 1 rfl)
    have m1q1 : b0_1 ≠ tb := Exa.neArv E1 Vtq1 (own_w hw 1 rfl)
    refine own_fw (fun _ => ox_aload Xq1.here hx (hb hby at_106) rfl rfl) ?_
    refine own_vc Xq1 hx hZ hown (rm8 l Z a0 hw [] b0_1 y4 Hq1 n0 zq1 F4) (own_w hw 44 rfl) (own_w hw 45 rfl) (own_w hw 47 rfl) (own_w hw 46 rfl) (own_w hw 48 rfl) (own_w hw 2 rfl) (by decide) hml rfl E1 eq1 (hb hby at_108) rfl rfl (lenOf pd0_2 rfl) (W := 0) rfl (by decide) (by decide) (c' := 60) (s' := 400) rfl rfl (by decide) (by decide) ?_
    rintro _ T0_125 L0_125 X0_125 ⟨rfl, N0_125q, e0_125⟩
    have N0_125 := Fr.app Nq1 N0_125q
    obtain ⟨Lhd0_126, Xhd0_126, Nhd0_126⟩ := own_hide X0_125 N0_125
    refine own_fw (fun _ => ox_istore Xhd0_126.here hx (hb hby at_111) rfl (l' := #[.val (.int p0), .val (.int p1), .val (.int p2), .val (.int p3), .val (.ref b0_1), .val (.ref b0_5), .val (.ref b0_16), .val (.ref b0_58), .val (.int y4), .unset, .unset, .unset, .unset, .unset, .unset, .unset]) rfl) ?_
    refine own_fw (fun _ => ox_aload Xhd0_126.here hx (hb hby at_113) rfl rfl) ?_
    refine own_vc Xhd0_126 hx hZ hown (rm8 l Z a0 hw [] b0_5 vr Hq1 n0 zq1 Fvq1) (own_w hw 44 rfl) (own_w hw 45 rfl) (own_w hw 47 rfl) (own_w hw 46 rfl) (own_w hw 48 rfl) (own_w hw 2 rfl) (by decide) hml rfl Epq1 e0_125 (hb hby at_115) rfl rfl (lenOf pd0_2 rfl) (W := 0) rfl (by decide) (by decide) (c' := 60) (s' := 400) rfl rfl (by decide) (by decide) ?_
    rintro _ T0_127 L0_127 X0_127 ⟨rfl, N0_127q, e0_127⟩
    have N0_127 := Fr.app Nhd0_126 N0_127q
    obtain ⟨Lhd0_128, Xhd0_128, Nhd0_128⟩ := own_hide X0_127 N0_127
    refine own_fw (fun _ => ox_istore Xhd0_128.here hx (hb hby at_118) rfl (l' := #[.val (.int p0), .val (.int p1), .val (.int p2), .val (.int p3), .val (.ref b0_1), .val (.ref b0_5), .val (.ref b0_16), .val (.ref b0_58), .val (.int y4), .val (.int vr), .unset, .unset, .unset, .unset, .unset, .unset]) rfl) ?_
    refine own_fw (fun _ => ox_aload Xhd0_128.here hx (hb hby at_120) rfl rfl) ?_
    refine own_vc Xhd0_128 hx hZ hown (rm9 l Z a0 hw [] b0_5 (1 : Int32) Hq1 n0 zq1 Fsq1) (own_w hw 51 rfl) (own_w hw 52 rfl) (own_w hw 54 rfl) (own_w hw 53 rfl) (own_w hw 55 rfl) (own_w hw 2 rfl) (by decide) hml rfl Epq1 e0_127 (hb hby at_122) rfl rfl (lenOf pd0_2 rfl) (W := 0) rfl (by decide) (by decide) (c' := 60) (s' := 400) rfl rfl (by decide) (by decide) ?_
    rintro _ T0_129 L0_129 X0_129 ⟨rfl, N0_129q, e0_129⟩
    have N0_129 := Fr.app Nhd0_128 N0_129q
    obtain ⟨Lhd0_130, Xhd0_130, Nhd0_130⟩ := own_hide X0_129 N0_129
    refine own_fw (fun _ => ox_istore Xhd0_130.here hx (hb hby at_125) rfl (l' := #[.val (.int p0), .val (.int p1), .val (.int p2), .val (.int p3), .val (.ref b0_1), .val (.ref b0_5), .val (.ref b0_16), .val (.ref b0_58), .val (.int y4), .val (.int vr), .val (.int (1 : Int32)), .unset, .unset, .unset, .unset, .unset]) rfl) ?_
    refine own_fw (fun _ => ox_aload Xhd0_130.here hx (hb hby at_127) rfl rfl) ?_
    refine own_fw (fun _ => ox_aload Xhd0_130.here hx (hb hby at_129) rfl rfl) ?_
    refine own_vc Xhd0_130 hx hZ hown (rm10 l Z a0 hw [] b0_1 b0_5 nb tb kn kt (1 : Int32) vr a (0 : Int32) (.ref t0) .null y1 y2 y3 y4 Hq1 n0 zq1 ⟨Epq1, Fnq1, Ftq1, Fsq1, Fvq1, Vnq1, Vtq1, Enq1, Etq1, Ovq1, ntq1⟩ E1 F1 F2 F3 F4 ne_b0_1_b0_5 g_b0_1) (own_w hw 58 rfl) (own_w hw 59 rfl) (own_w hw 61 rfl) (own_w hw 60 rfl) (own_w hw 62 rfl) (own_w hw 2 rfl) (by decide) hml rfl E1 e0_129 (hb hby at_131) rfl rfl (lenOf pd0_3 rfl) (W := 0) rfl (by decide) (by decide) (c' := 62) (s' := 432) rfl rfl (by decide) (by decide) ?_
    rintro _ T0_131 L0_131 X0_131 ⟨na0_131, ta0_131, rfl, N0_131q, K0_131, ⟨Ep0_131, Fn0_131, Ft0_131, Fs0_131, Fv0_131, Vn0_131, Vt0_131, En0_131, Et0_131, Ov0_131, nt0_131⟩, zn0_131, zt0_131⟩
    have N0_131 := Fr.app Nhd0_130 N0_131q
    have ne_b0_5_na0_131 : b0_5 ≠ na0_131 := Nat.ne_of_lt (Nat.lt_of_lt_of_le Epq1.lt zn0_131)
    have ne_nb_na0_131 : nb ≠ na0_131 := Nat.ne_of_lt (Nat.lt_of_lt_of_le Vnq1.lt zn0_131)
    have ne_tb_na0_131 : tb ≠ na0_131 := Nat.ne_of_lt (Nat.lt_of_lt_of_le Vtq1.lt zn0_131)
    have ne_b0_5_ta0_131 : b0_5 ≠ ta0_131 := Nat.ne_of_lt (Nat.lt_of_lt_of_le Epq1.lt zt0_131)
    have ne_nb_ta0_131 : nb ≠ ta0_131 := Nat.ne_of_lt (Nat.lt_of_lt_of_le Vnq1.lt zt0_131)
    have ne_tb_ta0_131 : tb ≠ ta0_131 := Nat.ne_of_lt (Nat.lt_of_lt_of_le Vtq1.lt zt0_131)
    have fc0_132 := (Fnq1.keep K0_131 (fun q => (Ne.symm ne_b0_1_b0_5) (List.mem_singleton.mp q)))
    have fc0_133 := (Ftq1.keep K0_131 (fun q => (Ne.symm ne_b0_1_b0_5) (List.mem_singleton.mp q)))
    have fc0_134 := (Fsq1.keep K0_131 (fun q => (Ne.symm ne_b0_1_b0_5) (List.mem_singleton.mp q)))
    have fc0_135 := (Fvq1.keep K0_131 (fun q => (Ne.symm ne_b0_1_b0_5) (List.mem_singleton.mp q)))
    have fc0_136 := (Vnq1.keep K0_131 (fun q => (Ne.symm m0q1) (List.mem_singleton.mp q)))
    have fc0_137 := (Vtq1.keep K0_131 (fun q => (Ne.symm m1q1) (List.mem_singleton.mp q)))
    have fc0_138 := (Svz.keep K0_131 (fun q => (Ne.symm ne_b0_1_b0_58) (List.mem_singleton.mp q)))
    have fc0_139 := (Scz.keep K0_131 (fun q => (Ne.symm ne_b0_1_b0_58) (List.mem_singleton.mp q)))
    have fc0_140 := (Vz.keep K0_131 (fun q => (Ne.symm ne_b0_1_bc0_60) (List.mem_singleton.mp q)))
    obtain ⟨Lhd0_141, Xhd0_141, Nhd0_141⟩ := own_hide X0_131 N0_131
    refine own_fw (fun _ => ox_aload Xhd0_141.here hx (hb hby at_134) rfl rfl) ?_
    refine own_vc Xhd0_141 hx hZ hown (rm9 l Z a0 hw [] b0_1 (1 : Int32) T0_131.heap n0 (Nat.le_trans zq1 K0_131.1) Fs0_131) (own_w hw 51 rfl) (own_w hw 52 rfl) (own_w hw 54 rfl) (own_w hw 53 rfl) (own_w hw 55 rfl) (own_w hw 2 rfl) (by decide) hml rfl Ep0_131 rfl (hb hby at_136) rfl rfl (lenOf pd0_2 rfl) (W := 0) rfl (by decide) (by decide) (c' := 62) (s' := 432) rfl rfl (by decide) (by decide) ?_
    rintro _ T0_142 L0_142 X0_142 ⟨rfl, N0_142q, e0_142⟩
    have N0_142 := Fr.app Nhd0_141 N0_142q
    obtain ⟨Lhd0_143, Xhd0_143, Nhd0_143⟩ := own_hide X0_142 N0_142
    refine own_fw (fun _ => ox_iload Xhd0_143.here hx (hb hby at_139) rfl) ?_
    refine own_fw (fun _ => ox_icmpNo Xhd0_143.here hx (hb hby at_141) rfl (teq (rfl : (1 : Int32) = (1 : Int32))).2) ?_
    refine own_fw (fun _ => ox_aload Xhd0_143.here hx (hb hby at_144) rfl rfl) ?_
    refine own_vc Xhd0_143 hx hZ hown (rm9 l Z a0 hw [] b0_5 (1 : Int32) T0_131.heap n0 (Nat.le_trans zq1 K0_131.1) fc0_134) (own_w hw 51 rfl) (own_w hw 52 rfl) (own_w hw 54 rfl) (own_w hw 53 rfl) (own_w hw 55 rfl) (own_w hw 2 rfl) (by decide) hml rfl (Epq1.keep K0_131) e0_142 (hb hby at_146) rfl rfl (lenOf pd0_2 rfl) (W := 0) rfl (by decide) (by decide) (c' := 62) (s' := 432) rfl rfl (by decide) (by decide) ?_
    rintro _ T0_144 L0_144 X0_144 ⟨rfl, N0_144q, e0_144⟩
    have N0_144 := Fr.app Nhd0_143 N0_144q
    obtain ⟨Lhd0_145, Xhd0_145, Nhd0_145⟩ := own_hide X0_144 N0_144
    refine own_fw (fun _ => ox_iload Xhd0_145.here hx (hb hby at_149) rfl) ?_
    refine own_fw (fun _ => ox_icmpNo Xhd0_145.here hx (hb hby at_151) rfl (teq (rfl : (1 : Int32) = (1 : Int32))).2) ?_
    refine own_fw (fun _ => ox_aload Xhd0_145.here hx (hb hby at_154) rfl rfl) ?_
    refine own_vc Xhd0_145 hx hZ hown (rm8 l Z a0 hw [] b0_1 (y4 + (1 : Int32)) T0_131.heap n0 (Nat.le_trans zq1 K0_131.1) Fv0_131) (own_w hw 44 rfl) (own_w hw 45 rfl) (own_w hw 47 rfl) (own_w hw 46 rfl) (own_w hw 48 rfl) (own_w hw 2 rfl) (by decide) hml rfl Ep0_131 e0_144 (hb hby at_156) rfl rfl (lenOf pd0_2 rfl) (W := 0) rfl (by decide) (by decide) (c' := 62) (s' := 432) rfl rfl (by decide) (by decide) ?_
    rintro _ T0_146 L0_146 X0_146 ⟨rfl, N0_146q, e0_146⟩
    have N0_146 := Fr.app Nhd0_145 N0_146q
    obtain ⟨Lhd0_147, Xhd0_147, Nhd0_147⟩ := own_hide X0_146 N0_146
    refine own_fw (fun _ => ox_iload Xhd0_147.here hx (hb hby at_159) rfl) ?_
    refine own_fw (fun _ => ox_iconst Xhd0_147.here hx (hb hby at_161)) ?_
    refine own_fw (fun _ => ox_iadd Xhd0_147.here hx (hb hby at_162) rfl) ?_
    refine own_fw (fun _ => ox_icmpNo Xhd0_147.here hx (hb hby at_163) rfl (teq (rfl : (y4 + (1 : Int32)) = (y4 + (1 : Int32)))).2) ?_
    refine own_fw (fun _ => ox_aload Xhd0_147.here hx (hb hby at_166) rfl rfl) ?_
    refine own_vc Xhd0_147 hx hZ hown (rm8 l Z a0 hw [] b0_5 vr T0_131.heap n0 (Nat.le_trans zq1 K0_131.1) fc0_135) (own_w hw 44 rfl) (own_w hw 45 rfl) (own_w hw 47 rfl) (own_w hw 46 rfl) (own_w hw 48 rfl) (own_w hw 2 rfl) (by decide) hml rfl (Epq1.keep K0_131) e0_146 (hb hby at_168) rfl rfl (lenOf pd0_2 rfl) (W := 0) rfl (by decide) (by decide) (c' := 62) (s' := 432) rfl rfl (by decide) (by decide) ?_
    rintro _ T0_148 L0_148 X0_148 ⟨rfl, N0_148q, e0_148⟩
    have N0_148 := Fr.app Nhd0_147 N0_148q
    obtain ⟨Lhd0_149, Xhd0_149, Nhd0_149⟩ := own_hide X0_148 N0_148
    refine own_fw (fun _ => ox_iload Xhd0_149.here hx (hb hby at_171) rfl) ?_
    refine own_fw (fun _ => ox_icmpNo Xhd0_149.here hx (hb hby at_173) rfl (teq (rfl : vr = vr)).2) ?_
    refine own_fw (fun _ => ox_iconst Xhd0_149.here hx (hb hby at_176)) ?_
    refine own_fw (fun _ => ox_goto Xhd0_149.here hx (pc0 := 177) (pc' := 181) rfl (hb hby at_177) (by decide) (by decide)) ?_
    refine own_fw (fun _ => ox_istore Xhd0_149.here hx (hb hby at_181) rfl (l' := #[.val (.int p0), .val (.int p1), .val (.int p2), .val (.int p3), .val (.ref b0_1), .val (.ref b0_5), .val (.ref b0_16), .val (.ref b0_58), .val (.int y4), .val (.int vr), .val (.int (1 : Int32)), .val (.int (1 : Int32)), .unset, .unset, .unset, .unset]) rfl) ?_
    refine own_fw (fun _ => ox_iload Xhd0_149.here hx (hb hby at_183) rfl) ?_
    refine own_fw (fun _ => ox_ifNo Xhd0_149.here hx (hb hby at_185) rfl ((if0 _ _).trans (feq (by decide : ¬ ((1 : Int32) = (0 : Int32)))).1)) ?_
    refine own_fw (fun _ => ox_aload Xhd0_149.here hx (hb hby at_188) rfl rfl) ?_
    refine own_fw (fun _ => ox_aload Xhd0_149.here hx (hb hby at_190) rfl rfl) ?_
    refine own_fw (fun _ => ox_iconst Xhd0_149.here hx (hb hby at_192)) ?_
    refine own_fw (fun _ => ox_iload Xhd0_149.here hx (hb hby at_193) rfl) ?_
    refine own_sc Xhd0_149 hx hZ hown (rmSM_0 l Z a0 hw [] b0_1 b0_5 (1 : Int32) na0_131 ta0_131 kn kt nb tb kn kt (y4 + (1 : Int32)) vr a (0 : Int32) t0 .null (1 : Int32) T0_131.heap n0 (Nat.le_trans zq1 K0_131.1) ⟨Ep0_131, Fn0_131, Ft0_131, Fs0_131, Fv0_131, Vn0_131, Vt0_131, En0_131, Et0_131, Ov0_131, nt0_131⟩ ⟨(Epq1.keep K0_131), fc0_132, fc0_133, fc0_134, fc0_135, fc0_136, fc0_137, (Enq1.keep K0_131), (Etq1.keep K0_131), Ovq1, ntq1⟩ (Et0.keep K0_131) (by decide)) (own_w hw 78 rfl) (own_w hw 79 rfl) (own_w hw 81 rfl) (own_w hw 80 rfl) (by decide) hml rfl e0_148 (hb hby at_195) rfl rfl (lenOf pd0_4 rfl) (W := 0) rfl (by decide) (by decide) (c' := 62) (s' := 432) rfl rfl (by decide) (by decide) ?_
    rintro _ T0_150 L0_150 X0_150 ⟨rfl, N0_150q, e0_150⟩
    have N0_150 := Fr.app Nhd0_149 N0_150q
    obtain ⟨Lhd0_151, Xhd0_151, Nhd0_151⟩ := own_hide X0_150 N0_150
    refine own_fw (fun _ => ox_ifNo Xhd0_151.here hx (hb hby at_198) rfl ((if0 _ _).trans (feq (by decide : ¬ ((1 : Int32) = (0 : Int32)))).1)) ?_
    refine own_fw (fun _ => ox_aload Xhd0_151.here hx (hb hby at_201) rfl rfl) ?_
    refine own_fw (fun _ => ox_aload Xhd0_151.here hx (hb hby at_203) rfl rfl) ?_
    refine own_fw (fun _ => ox_iconst Xhd0_151.here hx (hb hby at_205)) ?_
    refine own_fw (fun _ => ox_iload Xhd0_151.here hx (hb hby at_206) rfl) ?_
    refine own_sc Xhd0_151 hx hZ hown (rmSM_ge l Z a0 hw [] b0_1 b0_5 (1 : Int32) (1 : Int32) T0_131.heap n0 (Nat.le_trans zq1 K0_131.1) (by decide)) (own_w hw 78 rfl) (own_w hw 79 rfl) (own_w hw 81 rfl) (own_w hw 80 rfl) (by decide) hml rfl e0_150 (hb hby at_208) rfl rfl (lenOf pd0_4 rfl) (W := 0) rfl (by decide) (by decide) (c' := 62) (s' := 432) rfl rfl (by decide) (by decide) ?_
    rintro _ T0_152 L0_152 X0_152 ⟨rfl, N0_152q, e0_152⟩
    have N0_152 := Fr.app Nhd0_151 N0_152q
    obtain ⟨Lhd0_153, Xhd0_153, Nhd0_153⟩ := own_hide X0_152 N0_152
    refine own_fw (fun _ => ox_ifNo Xhd0_153.here hx (hb hby at_211) rfl ((if0 _ _).trans (feq (by decide : ¬ ((1 : Int32) = (0 : Int32)))).1)) ?_
    refine own_fw (fun _ => ox_iconst Xhd0_153.here hx (hb hby at_214)) ?_
    refine own_fw (fun _ => ox_goto Xhd0_153.here hx (pc0 := 215) (pc' := 219) rfl (hb hby at_215) (by decide) (by decide)) ?_
    refine own_fw (fun _ => ox_istore Xhd0_153.here hx (hb hby at_219) rfl (l' := #[.val (.int p0), .val (.int p1), .val (.int p2), .val (.int p3), .val (.ref b0_1), .val (.ref b0_5), .val (.ref b0_16), .val (.ref b0_58), .val (.int y4), .val (.int vr), .val (.int (1 : Int32)), .val (.int (1 : Int32)), .unset, .unset, .unset, .unset]) rfl) ?_
    refine own_fw (fun _ => ox_iload Xhd0_153.here hx (hb hby at_221) rfl) ?_
    refine own_fw (fun _ => ox_ifYes Xhd0_153.here hx (pc0 := 223) (pc' := 228) rfl (hb hby at_223) rfl ((if0 _ _).trans (feq (by decide : ¬ ((1 : Int32) = (0 : Int32)))).2) (by decide) (by decide)) ?_
    refine own_fw (fun _ => ox_iload Xhd0_153.here hx (hb hby at_228) rfl) ?_
    refine own_fw (fun _ => ox_ifNo Xhd0_153.here hx (hb hby at_230) rfl ((if0 _ _).trans (tlt (by decide : ((0 : Int32) < (1 : Int32)))).2.2.2)) ?_
    refine own_fw (fun _ => ox_aload Xhd0_153.here hx (hb hby at_233) rfl rfl) ?_
    refine own_fw (fun _ => ox_iconst Xhd0_153.here hx (hb hby at_235)) ?_
    refine own_vc Xhd0_153 hx hZ hown (rmNO_0 l Z a0 hw [] b0_1 na0_131 kn a (0 : Int32) T0_131.heap n0 (Nat.le_trans zq1 K0_131.1) Fn0_131 Vn0_131) (own_w hw 225 rfl) (own_w hw 226 rfl) (own_w hw 228 rfl) (own_w hw 227 rfl) (own_w hw 229 rfl) (own_w hw 2 rfl) (by decide) hml rfl Ep0_131 e0_152 (hb hby at_236) rfl rfl (lenOf pd0_7 rfl) (W := 0) rfl (by decide) (by decide) (c' := 62) (s' := 432) rfl rfl (by decide) (by decide) ?_
    rintro _ T0_154 L0_154 X0_154 ⟨rfl, N0_154q, e0_154⟩
    have N0_154 := Fr.app Nhd0_153 N0_154q
    obtain ⟨Lhd0_155, Xhd0_155, Nhd0_155⟩ := own_hide X0_154 N0_154
    refine own_fw (fun _ => ox_goto Xhd0_155.here hx (pc0 := 239) (pc' := 243) rfl (hb hby at_239) (by decide) (by decide)) ?_
    refine own_fw (fun _ => ox_istore Xhd0_155.here hx (hb hby at_243) rfl (l' := #[.val (.int p0), .val (.int p1), .val (.int p2), .val (.int p3), .val (.ref b0_1), .val (.ref b0_5), .val (.ref b0_16), .val (.ref b0_58), .val (.int y4), .val (.int vr), .val (.int (1 : Int32)), .val (.int (1 : Int32)), .val (.int a), .unset, .unset, .unset]) rfl) ?_
    refine own_fw (fun _ => ox_iload Xhd0_155.here hx (hb hby at_245) rfl) ?_
    refine own_fw (fun _ => ox_ifNo Xhd0_155.here hx (hb hby at_247) rfl ((if0 _ _).trans (tlt (by decide : ((0 : Int32) < (1 : Int32)))).2.2.2)) ?_
    refine own_fw (fun _ => ox_aload Xhd0_155.here hx (hb hby at_250) rfl rfl) ?_
    refine own_fw (fun _ => ox_iconst Xhd0_155.here hx (hb hby at_252)) ?_
    refine own_vc Xhd0_155 hx hZ hown (rmTE_0 l Z a0 hw [] b0_1 ta0_131 kt t0 .null T0_131.heap n0 (Nat.le_trans zq1 K0_131.1) Ft0_131 Vt0_131) (own_w hw 230 rfl) (own_w hw 231 rfl) (own_w hw 233 rfl) (own_w hw 232 rfl) (own_w hw 234 rfl) (own_w hw 2 rfl) (by decide) hml rfl Ep0_131 e0_154 (hb hby at_253) rfl rfl (lenOf pd0_8 rfl) (W := 0) rfl (by decide) (by decide) (c' := 62) (s' := 432) rfl rfl (by decide) (by decide) ?_
    rintro _ T0_156 L0_156 X0_156 ⟨rfl, N0_156q, e0_156⟩
    have N0_156 := Fr.app Nhd0_155 N0_156q
    obtain ⟨Lhd0_157, Xhd0_157, Nhd0_157⟩ := own_hide X0_156 N0_156
    refine own_fw (fun _ => ox_goto Xhd0_157.here hx (pc0 := 256) (pc' := 260) rfl (hb hby at_256) (by decide) (by decide)) ?_
    refine own_fw (fun _ => ox_astore Xhd0_157.here hx (hb hby at_260) rfl rfl (l' := #[.val (.int p0), .val (.int p1), .val (.int p2), .val (.int p3), .val (.ref b0_1), .val (.ref b0_5), .val (.ref b0_16), .val (.ref b0_58), .val (.int y4), .val (.int vr), .val (.int (1 : Int32)), .val (.int (1 : Int32)), .val (.int a), .val (.ref t0), .unset, .unset]) rfl) ?_
    refine own_fw (fun _ => ox_iload Xhd0_157.here hx (hb hby at_262) rfl) ?_
    refine own_fw (fun _ => ox_iconst Xhd0_157.here hx (hb hby at_264)) ?_
    refine own_fw (fun _ => ox_icmpYes Xhd0_157.here hx (pc0 := 265) (pc' := 277) rfl (hb hby at_265) rfl (flt (Int32.lt_irrefl : ¬ ((1 : Int32) < (1 : Int32)))).2.2.2 (by decide) (by decide)) ?_
    refine own_fw (fun _ => ox_iconst Xhd0_157.here hx (hb hby at_277)) ?_
    refine own_fw (fun _ => ox_istore Xhd0_157.here hx (hb hby at_278) rfl (l' := #[.val (.int p0), .val (.int p1), .val (.int p2), .val (.int p3), .val (.ref b0_1), .val (.ref b0_5), .val (.ref b0_16), .val (.ref b0_58), .val (.int y4), .val (.int vr), .val (.int (1 : Int32)), .val (.int (1 : Int32)), .val (.int a), .val (.ref t0), .val (.int (-1 : Int32)), .unset]) rfl) ?_
    refine own_fw (fun _ => ox_iload Xhd0_157.here hx (hb hby at_280) rfl) ?_
    refine own_fw (fun _ => ox_iconst Xhd0_157.here hx (hb hby at_282)) ?_
    refine own_fw (fun _ => ox_icmpYes Xhd0_157.here hx (pc0 := 283) (pc' := 295) rfl (hb hby at_283) rfl (flt (Int32.lt_irrefl : ¬ ((1 : Int32) < (1 : Int32)))).2.2.2 (by decide) (by decide)) ?_
    refine own_fw (fun _ => ox_aconstNull Xhd0_157.here hx (hb hby at_295)) ?_
    refine own_fw (fun _ => ox_astore Xhd0_157.here hx (hb hby at_296) rfl rfl (l' := #[.val (.int p0), .val (.int p1), .val (.int p2), .val (.int p3), .val (.ref b0_1), .val (.ref b0_5), .val (.ref b0_16), .val (.ref b0_58), .val (.int y4), .val (.int vr), .val (.int (1 : Int32)), .val (.int (1 : Int32)), .val (.int a), .val (.ref t0), .val (.int (-1 : Int32)), .val .null]) rfl) ?_
    refine own_fw (fun _ => ox_aload Xhd0_157.here hx (hb hby at_298) rfl rfl) ?_
    refine own_fw (fun _ => ox_aload Xhd0_157.here hx (hb hby at_300) rfl rfl) ?_
    refine own_vc Xhd0_157 hx hZ hown (rmEN_Z1 l Z a0 hw [] b0_5 b0_58 nb tb kn kt vr a t0 bc0_60 kb0_60 cc fv ra T0_131.heap n0 (Nat.le_trans zq1 K0_131.1) ⟨(Epq1.keep K0_131), fc0_132, fc0_133, fc0_134, fc0_135, fc0_136, fc0_137, (Enq1.keep K0_131), (Etq1.keep K0_131), Ovq1, ntq1⟩ (Ez.keep K0_131) fc0_138 fc0_139 fc0_140 g_b0_5 g_nb g_tb (Et0.keep K0_131) ha ⟨(Oq1.keep K0_131 (allS g_b0_1 all0)), S_c, hcc, S_f, hfv, S_r⟩) (own_w hw 82 rfl) (own_w hw 83 rfl) (own_w hw 85 rfl) (own_w hw 84 rfl) (own_w hw 86 rfl) (own_w hw 2 rfl) (by decide) hml rfl (Epq1.keep K0_131) e0_156 (hb hby at_302) rfl rfl (lenOf pd0_5 rfl) (W := 0) rfl (by decide) (by decide) (c' := 65) (s' := 443) rfl rfl (by decide) (by decide) ?_
    rintro _ T0_158 L0_158 X0_158 ⟨rfl, N0_158q, K0_158, R0_158⟩
    have N0_158 := Fr.app Nhd0_157 N0_158q
    have fc0_163 := (Fn0_131.keep K0_158 (by simp only [List.mem_cons, List.not_mem_nil, or_false, not_or]; exact ⟨ne_b0_1_b0_5, m0q1, m1q1⟩))
    have fc0_164 := (Ft0_131.keep K0_158 (by simp only [List.mem_cons, List.not_mem_nil, or_false, not_or]; exact ⟨ne_b0_1_b0_5, m0q1, m1q1⟩))
    have fc0_165 := (Fs0_131.keep K0_158 (by simp only [List.mem_cons, List.not_mem_nil, or_false, not_or]; exact ⟨ne_b0_1_b0_5, m0q1, m1q1⟩))
    have fc0_166 := (Fv0_131.keep K0_158 (by simp only [List.mem_cons, List.not_mem_nil, or_false, not_or]; exact ⟨ne_b0_1_b0_5, m0q1, m1q1⟩))
    have fc0_167 := (Vn0_131.keep K0_158 (by simp only [List.mem_cons, List.not_mem_nil, or_false, not_or]; exact ⟨(Ne.symm ne_b0_5_na0_131), (Ne.symm ne_nb_na0_131), (Ne.symm ne_tb_na0_131)⟩))
    have fc0_168 := (Vt0_131.keep K0_158 (by simp only [List.mem_cons, List.not_mem_nil, or_false, not_or]; exact ⟨(Ne.symm ne_b0_5_ta0_131), (Ne.symm ne_nb_ta0_131), (Ne.symm ne_tb_ta0_131)⟩))
    obtain ⟨Lhd0_169, Xhd0_169, Nhd0_169⟩ := own_hide X0_158 N0_158
    refine own_fw (fun _ => ox_pop Xhd0_169.here hx (hb hby at_305) rfl rfl) ?_
    refine own_fw (fun _ => ox_aload Xhd0_169.here hx (hb hby at_306) rfl rfl) ?_
    refine own_vc Xhd0_169 hx hZ hown (rm9 l Z a0 hw [] b0_1 (1 : Int32) T0_158.heap n0 (Nat.le_trans (Nat.le_trans zq1 K0_131.1) K0_158.1) fc0_165) (own_w hw 51 rfl) (own_w hw 52 rfl) (own_w hw 54 rfl) (own_w hw 53 rfl) (own_w hw 55 rfl) (own_w hw 2 rfl) (by decide) hml rfl (Ep0_131.keep K0_158) rfl (hb hby at_308) rfl rfl (lenOf pd0_2 rfl) (W := 0) rfl (by decide) (by decide) (c' := 65) (s' := 443) rfl rfl (by decide) (by decide) ?_
    rintro _ T0_170 L0_170 X0_170 ⟨rfl, N0_170q, e0_170⟩
    have N0_170 := Fr.app Nhd0_169 N0_170q
    obtain ⟨Lhd0_171, Xhd0_171, Nhd0_171⟩ := own_hide X0_170 N0_170
    refine own_fw (fun _ => ox_iload Xhd0_171.here hx (hb hby at_311) rfl) ?_
    refine own_fw (fun _ => ox_icmpNo Xhd0_171.here hx (hb hby at_313) rfl (teq (rfl : (1 : Int32) = (1 : Int32))).2) ?_
    refine own_fw (fun _ => ox_aload Xhd0_171.here hx (hb hby at_316) rfl rfl) ?_
    refine own_vc Xhd0_171 hx hZ hown (rm8 l Z a0 hw [] b0_1 (y4 + (1 : Int32)) T0_158.heap n0 (Nat.le_trans (Nat.le_trans zq1 K0_131.1) K0_158.1) fc0_166) (own_w hw 44 rfl) (own_w hw 45 rfl) (own_w hw 47 rfl) (own_w hw 46 rfl) (own_w hw 48 rfl) (own_w hw 2 rfl) (by decide) hml rfl (Ep0_131.keep K0_158) e0_170 (hb hby at_318) rfl rfl (lenOf pd0_2 rfl) (W := 0) rfl (by decide) (by decide) (c' := 65) (s' := 443) rfl rfl (by decide) (by decide) ?_
    rintro _ T0_172 L0_172 X0_172 ⟨rfl, N0_172q, e0_172⟩
    have N0_172 := Fr.app Nhd0_171 N0_172q
    obtain ⟨Lhd0_173, Xhd0_173, Nhd0_173⟩ := own_hide X0_172 N0_172
    refine own_fw (fun _ => ox_iload Xhd0_173.here hx (hb hby at_321) rfl) ?_
    refine own_fw (fun _ => ox_iconst Xhd0_173.here hx (hb hby at_323)) ?_
    refine own_fw (fun _ => ox_iadd Xhd0_173.here hx (hb hby at_324) rfl) ?_
    refine own_fw (fun _ => ox_icmpNo Xhd0_173.here hx (hb hby at_325) rfl (teq (rfl : (y4 + (1 : Int32)) = (y4 + (1 : Int32)))).2) ?_
    refine own_fw (fun _ => ox_aload Xhd0_173.here hx (hb hby at_328) rfl rfl) ?_
    refine own_fw (fun _ => ox_iconst Xhd0_173.here hx (hb hby at_330)) ?_
    refine own_fw (fun _ => ox_iload Xhd0_173.here hx (hb hby at_331) rfl) ?_
    refine own_fw (fun _ => ox_iload Xhd0_173.here hx (hb hby at_333) rfl) ?_
    refine own_fw (fun _ => ox_aload Xhd0_173.here hx (hb hby at_335) rfl rfl) ?_
    refine own_sc Xhd0_173 hx hZ hown (rmKP_0 l Z a0 hw [] b0_1 (1 : Int32) na0_131 ta0_131 kn kt (y4 + (1 : Int32)) a (0 : Int32) t0 .null (1 : Int32) T0_158.heap n0 (Nat.le_trans (Nat.le_trans zq1 K0_131.1) K0_158.1) ⟨(Ep0_131.keep K0_158), fc0_163, fc0_164, fc0_165, fc0_166, fc0_167, fc0_168, (En0_131.keep K0_158), (Et0_131.keep K0_158), Ov0_131, nt0_131⟩ ((Et0.keep K0_131).keep K0_158) (by decide)) (own_w hw 219 rfl) (own_w hw 220 rfl) (own_w hw 221 rfl) (own_w hw 80 rfl) (by decide) hml rfl e0_172 (hb hby at_337) rfl rfl (lenOf pd0_6 rfl) (W := 0) rfl (by decide) (by decide) (c' := 65) (s' := 443) rfl rfl (by decide) (by decide) ?_
    rintro _ T0_174 L0_174 X0_174 ⟨rfl, N0_174q, e0_174⟩
    have N0_174 := Fr.app Nhd0_173 N0_174q
    obtain ⟨Lhd0_175, Xhd0_175, Nhd0_175⟩ := own_hide X0_174 N0_174
    refine own_fw (fun _ => ox_ifNo Xhd0_175.here hx (hb hby at_340) rfl ((if0 _ _).trans (feq (by decide : ¬ ((1 : Int32) = (0 : Int32)))).1)) ?_
    refine own_fw (fun _ => ox_aload Xhd0_175.here hx (hb hby at_343) rfl rfl) ?_
    refine own_fw (fun _ => ox_iconst Xhd0_175.here hx (hb hby at_345)) ?_
    refine own_fw (fun _ => ox_iload Xhd0_175.here hx (hb hby at_346) rfl) ?_
    refine own_fw (fun _ => ox_iload Xhd0_175.here hx (hb hby at_348) rfl) ?_
    refine own_fw (fun _ => ox_aload Xhd0_175.here hx (hb hby at_350) rfl rfl) ?_
    refine own_sc Xhd0_175 hx hZ hown (rmKP_ge l Z a0 hw [] b0_1 (1 : Int32) (1 : Int32) (-1 : Int32) T0_158.heap n0 (Nat.le_trans (Nat.le_trans zq1 K0_131.1) K0_158.1) (by decide)) (own_w hw 219 rfl) (own_w hw 220 rfl) (own_w hw 221 rfl) (own_w hw 80 rfl) (by decide) hml rfl e0_174 (hb hby at_352) rfl rfl (lenOf pd0_6 rfl) (W := 0) rfl (by decide) (by decide) (c' := 65) (s' := 443) rfl rfl (by decide) (by decide) ?_
    rintro _ T0_176 L0_176 X0_176 ⟨rfl, N0_176q, e0_176⟩
    have N0_176 := Fr.app Nhd0_175 N0_176q
    obtain ⟨Lhd0_177, Xhd0_177, Nhd0_177⟩ := own_hide X0_176 N0_176
    refine own_fw (fun _ => ox_ifNo Xhd0_177.here hx (hb hby at_355) rfl ((if0 _ _).trans (feq (by decide : ¬ ((1 : Int32) = (0 : Int32)))).1)) ?_
    refine own_fw (fun _ => ox_iconst Xhd0_177.here hx (hb hby at_358)) ?_
    refine own_fw (fun _ => ox_goto Xhd0_177.here hx (pc0 := 359) (pc' := 363) rfl (hb hby at_359) (by decide) (by decide)) ?_
    exact own_PP hPP (own_leaf Xhd0_177 (v := some (.int (nar .boolean (1 : Int32)))) (own_ret Bd.returns) (BodyLoose.notSynchronized Bd) e0_176 (⟨rfl, Nhd0_177⟩) (by decide) (by decide) (fun fs hr => retN Xhd0_177 hx (t := .boolean) Bd.returns (by simp) (hb hby at_363) hr))
  have tail2 : ∀ (Tq2 : State) (Hq2 : Heap) (Lq2 : List Loc) (Xq2 : Stand p l e room_1 s m #[(.int p0), (.int p1), (.int p2), (.int p3)] below meth c Tq2 Lq2 60 400) (eq2 : Tq2.heap = Hq2) (Nq2 : Fr n0 Lq2) (zq2 : n0 ≤ Hq2.size) (Oq2 : Old Z n0 Hq2) (y1 y2 : Addr) (y3 y4 : Int32) (E1 : Exa Z Hq2 b0_1 "com/example/copperline/copperline/Program") (F1 : Fld Z Hq2 b0_1 "com/example/copperline/copperline/Program" "numbers" "[I" (.ref y1)) (F2 : Fld Z Hq2 b0_1 "com/example/copperline/copperline/Program" "texts" "[Ljava/lang/String;" (.ref y2)) (F3 : Fld Z Hq2 b0_1 "com/example/copperline/copperline/Program" "size" "I" (.int y3)) (F4 : Fld Z Hq2 b0_1 "com/example/copperline/copperline/Program" "version" "I" (.int y4)) (nb tb : Addr) (kn kt : ClassId) (vr : Int32) (a b : Int32) (t0 t1 : Addr) (PB : OwnPG Z Hq2 b0_5 nb tb kn kt (2 : Int32) vr a b (.ref t0) (.ref t1)) (Et0 : Exa Z Hq2 t0 "java/lang/String") (Et1 : Exa Z Hq2 t1 "java/lang/String") (ha : ¬ a < (0 : Int32)) (hnb : ¬ b < (0 : Int32)) (Ez : Exa Z Hq2 b0_58 "java/lang/String") (Svz : Fld Z Hq2 b0_58 "java/lang/String" "value" "[B" (.ref bc0_60)) (Scz : Fld Z Hq2 b0_58 "java/lang/String" "coder" "B" (.int 0)) (Vz : Arv Z Hq2 bc0_60 kb0_60 .byte (4 : Int32) [(.int (48 : Int32)), (.int (32 : Int32)), (.int (90 : Int32)), (.int (90 : Int32))] (.int 0)) (g_nb : n0 ≤ nb) (g_tb : n0 ≤ tb) (nzn : bc0_60 ≠ nb) (nzt : bc0_60 ≠ tb), ∃ t o, Steps p.tables e below (Tq2.setTop (mkF m 106 #[.val (.int p0), .val (.int p1), .val (.int p2), .val (.int p3), .val (.ref b0_1), .val (.ref b0_5), .val (.ref b0_16), .val (.ref b0_58), .unset, .unset, .unset, .unset, .unset, .unset, .unset, .unset] [])) t ∧ PP t o := by
    intro Tq2 Hq2 Lq2 Xq2 eq2 Nq2 zq2 Oq2 y1 y2 y3 y4 E1 F1 F2 F3 F4 nb tb kn kt vr a b t0 t1 PB Et0 Et1 ha hnb Ez Svz Scz Vz g_nb g_tb nzn nzt
    obtain ⟨Epq2, Fnq2, Ftq2, Fsq2, Fvq2, Vnq2, Vtq2, Enq2, Etq2, Ovq2, ntq2⟩ := PB
    have m0q2 : b0_1 ≠ nb := Exa.neArv E1 Vnq2 (own_w hw 1 rfl)
    have m1q2 : b0_1 ≠ tb := Exa.neArv E1 Vtq2 (own_w hw 1 rfl)
    refine own_fw (fun _ => ox_aload Xq2.here hx (hb hby at_106) rfl rfl) ?_
    refine own_vc Xq2 hx hZ hown (rm8 l Z a0 hw [] b0_1 y4 Hq2 n0 zq2 F4) (own_w hw 44 rfl) (own_w hw 45 rfl) (own_w hw 47 rfl) (own_w hw 46 rfl) (own_w hw 48 rfl) (own_w hw 2 rfl) (by decide) hml rfl E1 eq2 (hb hby at_108) rfl rfl (lenOf pd0_2 rfl) (W := 0) rfl (by decide) (by decide) (c' := 60) (s' := 400) rfl rfl (by decide) (by decide) ?_
    rintro _ T0_178 L0_178 X0_178 ⟨rfl, N0_178q, e0_178⟩
    have N0_178 := Fr.app Nq2 N0_178q
    obtain ⟨Lhd0_179, Xhd0_179, Nhd0_179⟩ := own_hide X0_178 N0_178
    refine own_fw (fun _ => ox_istore Xhd0_179.here hx (hb hby at_111) rfl (l' := #[.val (.int p0), .val (.int p1), .val (.int p2), .val (.int p3), .val (.ref b0_1), .val (.ref b0_5), .val (.ref b0_16), .val (.ref b0_58), .val (.int y4), .unset, .unset, .unset, .unset, .unset, .unset, .unset]) rfl) ?_
    refine own_fw (fun _ => ox_aload Xhd0_179.here hx (hb hby at_113) rfl rfl) ?_
    refine own_vc Xhd0_179 hx hZ hown (rm8 l Z a0 hw [] b0_5 vr Hq2 n0 zq2 Fvq2) (own_w hw 44 rfl) (own_w hw 45 rfl) (own_w hw 47 rfl) (own_w hw 46 rfl) (own_w hw 48 rfl) (own_w hw 2 rfl) (by decide) hml rfl Epq2 e0_178 (hb hby at_115) rfl rfl (lenOf pd0_2 rfl) (W := 0) rfl (by decide) (by decide) (c' := 60) (s' := 400) rfl rfl (by decide) (by decide) ?_
    rintro _ T0_180 L0_180 X0_180 ⟨rfl, N0_180q, e0_180⟩
    have N0_180 := Fr.app Nhd0_179 N0_180q
    obtain ⟨Lhd0_181, Xhd0_181, Nhd0_181⟩ := own_hide X0_180 N0_180
    refine own_fw (fun _ => ox_istore Xhd0_181.here hx (hb hby at_118) rfl (l' := #[.val (.int p0), .val (.int p1), .val (.int p2), .val (.int p3), .val (.ref b0_1), .val (.ref b0_5), .val (.ref b0_16), .val (.ref b0_58), .val (.int y4), .val (.int vr), .unset, .unset, .unset, .unset, .unset, .unset]) rfl) ?_
    refine own_fw (fun _ => ox_aload Xhd0_181.here hx (hb hby at_120) rfl rfl) ?_
    refine own_vc Xhd0_181 hx hZ hown (rm9 l Z a0 hw [] b0_5 (2 : Int32) Hq2 n0 zq2 Fsq2) (own_w hw 51 rfl) (own_w hw 52 rfl) (own_w hw 54 rfl) (own_w hw 53 rfl) (own_w hw 55 rfl) (own_w hw 2 rfl) (by decide) hml rfl Epq2 e0_180 (hb hby at_122) rfl rfl (lenOf pd0_2 rfl) (W := 0) rfl (by decide) (by decide) (c' := 60) (s' := 400) rfl rfl (by decide) (by decide) ?_
    rintro _ T0_182 L0_182 X0_182 ⟨rfl, N0_182q, e0_182⟩
    have N0_182 := Fr.app Nhd0_181 N0_182q
    obtain ⟨Lhd0_183, Xhd0_183, Nhd0_183⟩ := own_hide X0_182 N0_182
    refine own_fw (fun _ => ox_istore Xhd0_183.here hx (hb hby at_125) rfl (l' := #[.val (.int p0), .val (.int p1), .val (.int p2), .val (.int p3), .val (.ref b0_1), .val (.ref b0_5), .val (.ref b0_16), .val (.ref b0_58), .val (.int y4), .val (.int vr), .val (.int (2 : Int32)), .unset, .unset, .unset, .unset, .unset]) rfl) ?_
    refine own_fw (fun _ => ox_aload Xhd0_183.here hx (hb hby at_127) rfl rfl) ?_
    refine own_fw (fun _ => ox_aload Xhd0_183.here hx (hb hby at_129) rfl rfl) ?_
    refine own_vc Xhd0_183 hx hZ hown (rm10 l Z a0 hw [] b0_1 b0_5 nb tb kn kt (2 : Int32) vr a b (.ref t0) (.ref t1) y1 y2 y3 y4 Hq2 n0 zq2 ⟨Epq2, Fnq2, Ftq2, Fsq2, Fvq2, Vnq2, Vtq2, Enq2, Etq2, Ovq2, ntq2⟩ E1 F1 F2 F3 F4 ne_b0_1_b0_5 g_b0_1) (own_w hw 58 rfl) (own_w hw 59 rfl) (own_w hw 61 rfl) (own_w hw 60 rfl) (own_w hw 62 rfl) (own_w hw 2 rfl) (by decide) hml rfl E1 e0_182 (hb hby at_131) rfl rfl (lenOf pd0_3 rfl) (W := 0) rfl (by decide) (by decide) (c' := 62) (s' := 432) rfl rfl (by decide) (by decide) ?_
    rintro _ T0_184 L0_184 X0_184 ⟨na0_184, ta0_184, rfl, N0_184q, K0_184, ⟨Ep0_184, Fn0_184, Ft0_184, Fs0_184, Fv0_184, Vn0_184, Vt0_184, En0_184, Et0_184, Ov0_184, nt0_184⟩, zn0_184, zt0_184⟩
    have N0_184 := Fr.app Nhd0_183 N0_184q
    have ne_b0_5_na0_184 : b0_5 ≠ na0_184 := Nat.ne_of_lt (Nat.lt_of_lt_of_le Epq2.lt zn0_184)
    have ne_nb_na0_184 : nb ≠ na0_184 := Nat.ne_of_lt (Nat.lt_of_lt_of_le Vnq2.lt zn0_184)
    have ne_tb_na0_184 : tb ≠ na0_184 := Nat.ne_of_lt (Nat.lt_of_lt_of_le Vtq2.lt zn0_184)
    have ne_b0_5_ta0_184 : b0_5 ≠ ta0_184 := Nat.ne_of_lt (Nat.lt_of_lt_of_le Epq2.lt zt0_184)
    have ne_nb_ta0_184 : nb ≠ ta0_184 := Nat.ne_of_lt (Nat.lt_of_lt_of_le Vnq2.lt zt0_184)
    have ne_tb_ta0_184 : tb ≠ ta0_184 := Nat.ne_of_lt (Nat.lt_of_lt_of_le Vtq2.lt zt0_184)
    have fc0_185 := (Fnq2.keep K0_184 (fun q => (Ne.symm ne_b0_1_b0_5) (List.mem_singleton.mp q)))
    have fc0_186 := (Ftq2.keep K0_184 (fun q => (Ne.symm ne_b0_1_b0_5) (List.mem_singleton.mp q)))
    have fc0_187 := (Fsq2.keep K0_184 (fun q => (Ne.symm ne_b0_1_b0_5) (List.mem_singleton.mp q)))
    have fc0_188 := (Fvq2.keep K0_184 (fun q => (Ne.symm ne_b0_1_b0_5) (List.mem_singleton.mp q)))
    have fc0_189 := (Vnq2.keep K0_184 (fun q => (Ne.symm m0q2) (List.mem_singleton.mp q)))
    have fc0_190 := (Vtq2.keep K0_184 (fun q => (Ne.symm m1q2) (List.mem_singleton.mp q)))
    have fc0_191 := (Svz.keep K0_184 (fun q => (Ne.symm ne_b0_1_b0_58) (List.mem_singleton.mp q)))
    have fc0_192 := (Scz.keep K0_184 (fun q => (Ne.symm ne_b0_1_b0_58) (List.mem_singleton.mp q)))
    have fc0_193 := (Vz.keep K0_184 (fun q => (Ne.symm ne_b0_1_bc0_60) (List.mem_singleton.mp q)))
    obtain ⟨Lhd0_194, Xhd0_194, Nhd0_194⟩ := own_hide X0_184 N0_184
    refine own_fw (fun _ => ox_aload Xhd0_194.here hx (hb hby at_134) rfl rfl) ?_
    refine own_vc Xhd0_194 hx hZ hown (rm9 l Z a0 hw [] b0_1 (2 : Int32) T0_184.heap n0 (Nat.le_trans zq2 K0_184.1) Fs0_184) (own_w hw 51 rfl) (own_w hw 52 rfl) (own_w hw 54 rfl) (own_w hw 53 rfl) (own_w hw 55 rfl) (own_w hw 2 rfl) (by decide) hml rfl Ep0_184 rfl (hb hby at_136) rfl rfl (lenOf pd0_2 rfl) (W := 0) rfl (by decide) (by decide) (c' := 62) (s' := 432) rfl rfl (by decide) (by decide) ?_
    rintro _ T0_195 L0_195 X0_195 ⟨rfl, N0_195q, e0_195⟩
    have N0_195 := Fr.app Nhd0_194 N0_195q
    obtain ⟨Lhd0_196, Xhd0_196, Nhd0_196⟩ := own_hide X0_195 N0_195
    refine own_fw (fun _ => ox_iload Xhd0_196.here hx (hb hby at_139) rfl) ?_
    refine own_fw (fun _ => ox_icmpNo Xhd0_196.here hx (hb hby at_141) rfl (teq (rfl : (2 : Int32) = (2 : Int32))).2) ?_
    refine own_fw (fun _ => ox_aload Xhd0_196.here hx (hb hby at_144) rfl rfl) ?_
    refine own_vc Xhd0_196 hx hZ hown (rm9 l Z a0 hw [] b0_5 (2 : Int32) T0_184.heap n0 (Nat.le_trans zq2 K0_184.1) fc0_187) (own_w hw 51 rfl) (own_w hw 52 rfl) (own_w hw 54 rfl) (own_w hw 53 rfl) (own_w hw 55 rfl) (own_w hw 2 rfl) (by decide) hml rfl (Epq2.keep K0_184) e0_195 (hb hby at_146) rfl rfl (lenOf pd0_2 rfl) (W := 0) rfl (by decide) (by decide) (c' := 62) (s' := 432) rfl rfl (by decide) (by decide) ?_
    rintro _ T0_197 L0_197 X0_197 ⟨rfl, N0_197q, e0_197⟩
    have N0_197 := Fr.app Nhd0_196 N0_197q
    obtain ⟨Lhd0_198, Xhd0_198, Nhd0_198⟩ := own_hide X0_197 N0_197
    refine own_fw (fun _ => ox_iload Xhd0_198.here hx (hb hby at_149) rfl) ?_
    refine own_fw (fun _ => ox_icmpNo Xhd0_198.here hx (hb hby at_151) rfl (teq (rfl : (2 : Int32) = (2 : Int32))).2) ?_
    refine own_fw (fun _ => ox_aload Xhd0_198.here hx (hb hby at_154) rfl rfl) ?_
    refine own_vc Xhd0_198 hx hZ hown (rm8 l Z a0 hw [] b0_1 (y4 + (1 : Int32)) T0_184.heap n0 (Nat.le_trans zq2 K0_184.1) Fv0_184) (own_w hw 44 rfl) (own_w hw 45 rfl) (own_w hw 47 rfl) (own_w hw 46 rfl) (own_w hw 48 rfl) (own_w hw 2 rfl) (by decide) hml rfl Ep0_184 e0_197 (hb hby at_156) rfl rfl (lenOf pd0_2 rfl) (W := 0) rfl (by decide) (by decide) (c' := 62) (s' := 432) rfl rfl (by decide) (by decide) ?_
    rintro _ T0_199 L0_199 X0_199 ⟨rfl, N0_199q, e0_199⟩
    have N0_199 := Fr.app Nhd0_198 N0_199q
    obtain ⟨Lhd0_200, Xhd0_200, Nhd0_200⟩ := own_hide X0_199 N0_199
    refine own_fw (fun _ => ox_iload Xhd0_200.here hx (hb hby at_159) rfl) ?_
    refine own_fw (fun _ => ox_iconst Xhd0_200.here hx (hb hby at_161)) ?_
    refine own_fw (fun _ => ox_iadd Xhd0_200.here hx (hb hby at_162) rfl) ?_
    refine own_fw (fun _ => ox_icmpNo Xhd0_200.here hx (hb hby at_163) rfl (teq (rfl : (y4 + (1 : Int32)) = (y4 + (1 : Int32)))).2) ?_
    refine own_fw (fun _ => ox_aload Xhd0_200.here hx (hb hby at_166) rfl rfl) ?_
    refine own_vc Xhd0_200 hx hZ hown (rm8 l Z a0 hw [] b0_5 vr T0_184.heap n0 (Nat.le_trans zq2 K0_184.1) fc0_188) (own_w hw 44 rfl) (own_w hw 45 rfl) (own_w hw 47 rfl) (own_w hw 46 rfl) (own_w hw 48 rfl) (own_w hw 2 rfl) (by decide) hml rfl (Epq2.keep K0_184) e0_199 (hb hby at_168) rfl rfl (lenOf pd0_2 rfl) (W := 0) rfl (by decide) (by decide) (c' := 62) (s' := 432) rfl rfl (by decide) (by decide) ?_
    rintro _ T0_201 L0_201 X0_201 ⟨rfl, N0_201q, e0_201⟩
    have N0_201 := Fr.app Nhd0_200 N0_201q
    obtain ⟨Lhd0_202, Xhd0_202, Nhd0_202⟩ := own_hide X0_201 N0_201
    refine own_fw (fun _ => ox_iload Xhd0_202.here hx (hb hby at_171) rfl) ?_
    refine own_fw (fun _ => ox_icmpNo Xhd0_202.here hx (hb hby at_173) rfl (teq (rfl : vr = vr)).2) ?_
    refine own_fw (fun _ => ox_iconst Xhd0_202.here hx (hb hby at_176)) ?_
    refine own_fw (fun _ => ox_goto Xhd0_202.here hx (pc0 := 177) (pc' := 181) rfl (hb hby at_177) (by decide) (by decide)) ?_
    refine own_fw (fun _ => ox_istore Xhd0_202.here hx (hb hby at_181) rfl (l' := #[.val (.int p0), .val (.int p1), .val (.int p2), .val (.int p3), .val (.ref b0_1), .val (.ref b0_5), .val (.ref b0_16), .val (.ref b0_58), .val (.int y4), .val (.int vr), .val (.int (2 : Int32)), .val (.int (1 : Int32)), .unset, .unset, .unset, .unset]) rfl) ?_
    refine own_fw (fun _ => ox_iload Xhd0_202.here hx (hb hby at_183) rfl) ?_
    refine own_fw (fun _ => ox_ifNo Xhd0_202.here hx (hb hby at_185) rfl ((if0 _ _).trans (feq (by decide : ¬ ((1 : Int32) = (0 : Int32)))).1)) ?_
    refine own_fw (fun _ => ox_aload Xhd0_202.here hx (hb hby at_188) rfl rfl) ?_
    refine own_fw (fun _ => ox_aload Xhd0_202.here hx (hb hby at_190) rfl rfl) ?_
    refine own_fw (fun _ => ox_iconst Xhd0_202.here hx (hb hby at_192)) ?_
    refine own_fw (fun _ => ox_iload Xhd0_202.here hx (hb hby at_193) rfl) ?_
    refine own_sc Xhd0_202 hx hZ hown (rmSM_0 l Z a0 hw [] b0_1 b0_5 (2 : Int32) na0_184 ta0_184 kn kt nb tb kn kt (y4 + (1 : Int32)) vr a b t0 (.ref t1) (2 : Int32) T0_184.heap n0 (Nat.le_trans zq2 K0_184.1) ⟨Ep0_184, Fn0_184, Ft0_184, Fs0_184, Fv0_184, Vn0_184, Vt0_184, En0_184, Et0_184, Ov0_184, nt0_184⟩ ⟨(Epq2.keep K0_184), fc0_185, fc0_186, fc0_187, fc0_188, fc0_189, fc0_190, (Enq2.keep K0_184), (Etq2.keep K0_184), Ovq2, ntq2⟩ (Et0.keep K0_184) (by decide)) (own_w hw 78 rfl) (own_w hw 79 rfl) (own_w hw 81 rfl) (own_w hw 80 rfl) (by decide) hml rfl e0_201 (hb hby at_195) rfl rfl (lenOf pd0_4 rfl) (W := 0) rfl (by decide) (by decide) (c' := 62) (s' := 432) rfl rfl (by decide) (by decide) ?_
    rintro _ T0_203 L0_203 X0_203 ⟨rfl, N0_203q, e0_203⟩
    have N0_203 := Fr.app Nhd0_202 N0_203q
    obtain ⟨Lhd0_204, Xhd0_204, Nhd0_204⟩ := own_hide X0_203 N0_203
    refine own_fw (fun _ => ox_ifNo Xhd0_204.here hx (hb hby at_198) rfl ((if0 _ _).trans (feq (by decide : ¬ ((1 : Int32) = (0 : Int32)))).1)) ?_
    refine own_fw (fun _ => ox_aload Xhd0_204.here hx (hb hby at_201) rfl rfl) ?_
    refine own_fw (fun _ => ox_aload Xhd0_204.here hx (hb hby at_203) rfl rfl) ?_
    refine own_fw (fun _ => ox_iconst Xhd0_204.here hx (hb hby at_205)) ?_
    refine own_fw (fun _ => ox_iload Xhd0_204.here hx (hb hby at_206) rfl) ?_
    refine own_sc Xhd0_204 hx hZ hown (rmSM_1 l Z a0 hw [] b0_1 b0_5 (2 : Int32) na0_184 ta0_184 kn kt nb tb kn kt (y4 + (1 : Int32)) vr a b t1 (.ref t0) (2 : Int32) T0_184.heap n0 (Nat.le_trans zq2 K0_184.1) ⟨Ep0_184, Fn0_184, Ft0_184, Fs0_184, Fv0_184, Vn0_184, Vt0_184, En0_184, Et0_184, Ov0_184, nt0_184⟩ ⟨(Epq2.keep K0_184), fc0_185, fc0_186, fc0_187, fc0_188, fc0_189, fc0_190, (Enq2.keep K0_184), (Etq2.keep K0_184), Ovq2, ntq2⟩ (Et1.keep K0_184) (by decide)) (own_w hw 78 rfl) (own_w hw 79 rfl) (own_w hw 81 rfl) (own_w hw 80 rfl) (by decide) hml rfl e0_203 (hb hby at_208) rfl rfl (lenOf pd0_4 rfl) (W := 0) rfl (by decide) (by decide) (c' := 62) (s' := 432) rfl rfl (by decide) (by decide) ?_
    rintro _ T0_205 L0_205 X0_205 ⟨rfl, N0_205q, e0_205⟩
    have N0_205 := Fr.app Nhd0_204 N0_205q
    obtain ⟨Lhd0_206, Xhd0_206, Nhd0_206⟩ := own_hide X0_205 N0_205
    refine own_fw (fun _ => ox_ifNo Xhd0_206.here hx (hb hby at_211) rfl ((if0 _ _).trans (feq (by decide : ¬ ((1 : Int32) = (0 : Int32)))).1)) ?_
    refine own_fw (fun _ => ox_iconst Xhd0_206.here hx (hb hby at_214)) ?_
    refine own_fw (fun _ => ox_goto Xhd0_206.here hx (pc0 := 215) (pc' := 219) rfl (hb hby at_215) (by decide) (by decide)) ?_
    refine own_fw (fun _ => ox_istore Xhd0_206.here hx (hb hby at_219) rfl (l' := #[.val (.int p0), .val (.int p1), .val (.int p2), .val (.int p3), .val (.ref b0_1), .val (.ref b0_5), .val (.ref b0_16), .val (.ref b0_58), .val (.int y4), .val (.int vr), .val (.int (2 : Int32)), .val (.int (1 : Int32)), .unset, .unset, .unset, .unset]) rfl) ?_
    refine own_fw (fun _ => ox_iload Xhd0_206.here hx (hb hby at_221) rfl) ?_
    refine own_fw (fun _ => ox_ifYes Xhd0_206.here hx (pc0 := 223) (pc' := 228) rfl (hb hby at_223) rfl ((if0 _ _).trans (feq (by decide : ¬ ((1 : Int32) = (0 : Int32)))).2) (by decide) (by decide)) ?_
    refine own_fw (fun _ => ox_iload Xhd0_206.here hx (hb hby at_228) rfl) ?_
    refine own_fw (fun _ => ox_ifNo Xhd0_206.here hx (hb hby at_230) rfl ((if0 _ _).trans (tlt (by decide : ((0 : Int32) < (2 : Int32)))).2.2.2)) ?_
    refine own_fw (fun _ => ox_aload Xhd0_206.here hx (hb hby at_233) rfl rfl) ?_
    refine own_fw (fun _ => ox_iconst Xhd0_206.here hx (hb hby at_235)) ?_
    refine own_vc Xhd0_206 hx hZ hown (rmNO_0 l Z a0 hw [] b0_1 na0_184 kn a b T0_184.heap n0 (Nat.le_trans zq2 K0_184.1) Fn0_184 Vn0_184) (own_w hw 225 rfl) (own_w hw 226 rfl) (own_w hw 228 rfl) (own_w hw 227 rfl) (own_w hw 229 rfl) (own_w hw 2 rfl) (by decide) hml rfl Ep0_184 e0_205 (hb hby at_236) rfl rfl (lenOf pd0_7 rfl) (W := 0) rfl (by decide) (by decide) (c' := 62) (s' := 432) rfl rfl (by decide) (by decide) ?_
    rintro _ T0_207 L0_207 X0_207 ⟨rfl, N0_207q, e0_207⟩
    have N0_207 := Fr.app Nhd0_206 N0_207q
    obtain ⟨Lhd0_208, Xhd0_208, Nhd0_208⟩ := own_hide X0_207 N0_207
    refine own_fw (fun _ => ox_goto Xhd0_208.here hx (pc0 := 239) (pc' := 243) rfl (hb hby at_239) (by decide) (by decide)) ?_
    refine own_fw (fun _ => ox_istore Xhd0_208.here hx (hb hby at_243) rfl (l' := #[.val (.int p0), .val (.int p1), .val (.int p2), .val (.int p3), .val (.ref b0_1), .val (.ref b0_5), .val (.ref b0_16), .val (.ref b0_58), .val (.int y4), .val (.int vr), .val (.int (2 : Int32)), .val (.int (1 : Int32)), .val (.int a), .unset, .unset, .unset]) rfl) ?_
    refine own_fw (fun _ => ox_iload Xhd0_208.here hx (hb hby at_245) rfl) ?_
    refine own_fw (fun _ => ox_ifNo Xhd0_208.here hx (hb hby at_247) rfl ((if0 _ _).trans (tlt (by decide : ((0 : Int32) < (2 : Int32)))).2.2.2)) ?_
    refine own_fw (fun _ => ox_aload Xhd0_208.here hx (hb hby at_250) rfl rfl) ?_
    refine own_fw (fun _ => ox_iconst Xhd0_208.here hx (hb hby at_252)) ?_
    refine own_vc Xhd0_208 hx hZ hown (rmTE_0 l Z a0 hw [] b0_1 ta0_184 kt t0 (.ref t1) T0_184.heap n0 (Nat.le_trans zq2 K0_184.1) Ft0_184 Vt0_184) (own_w hw 230 rfl) (own_w hw 231 rfl) (own_w hw 233 rfl) (own_w hw 232 rfl) (own_w hw 234 rfl) (own_w hw 2 rfl) (by decide) hml rfl Ep0_184 e0_207 (hb hby at_253) rfl rfl (lenOf pd0_8 rfl) (W := 0) rfl (by decide) (by decide) (c' := 62) (s' := 432) rfl rfl (by decide) (by decide) ?_
    rintro _ T0_209 L0_209 X0_209 ⟨rfl, N0_209q, e0_209⟩
    have N0_209 := Fr.app Nhd0_208 N0_209q
    obtain ⟨Lhd0_210, Xhd0_210, Nhd0_210⟩ := own_hide X0_209 N0_209
    refine own_fw (fun _ => ox_goto Xhd0_210.here hx (pc0 := 256) (pc' := 260) rfl (hb hby at_256) (by decide) (by decide)) ?_
    refine own_fw (fun _ => ox_astore Xhd0_210.here hx (hb hby at_260) rfl rfl (l' := #[.val (.int p0), .val (.int p1), .val (.int p2), .val (.int p3), .val (.ref b0_1), .val (.ref b0_5), .val (.ref b0_16), .val (.ref b0_58), .val (.int y4), .val (.int vr), .val (.int (2 : Int32)), .val (.int (1 : Int32)), .val (.int a), .val (.ref t0), .unset, .unset]) rfl) ?_
    refine own_fw (fun _ => ox_iload Xhd0_210.here hx (hb hby at_262) rfl) ?_
    refine own_fw (fun _ => ox_iconst Xhd0_210.here hx (hb hby at_264)) ?_
    refine own_fw (fun _ => ox_icmpNo Xhd0_210.here hx (hb hby at_265) rfl (tlt (by decide : ((1 : Int32) < (2 : Int32)))).2.2.2) ?_
    refine own_fw (fun _ => ox_aload Xhd0_210.here hx (hb hby at_268) rfl rfl) ?_
    refine own_fw (fun _ => ox_iconst Xhd0_210.here hx (hb hby at_270)) ?_
    refine own_vc Xhd0_210 hx hZ hown (rmNO_1 l Z a0 hw [] b0_1 na0_184 kn a b T0_184.heap n0 (Nat.le_trans zq2 K0_184.1) Fn0_184 Vn0_184) (own_w hw 225 rfl) (own_w hw 226 rfl) (own_w hw 228 rfl) (own_w hw 227 rfl) (own_w hw 229 rfl) (own_w hw 2 rfl) (by decide) hml rfl Ep0_184 e0_209 (hb hby at_271) rfl rfl (lenOf pd0_7 rfl) (W := 0) rfl (by decide) (by decide) (c' := 62) (s' := 432) rfl rfl (by decide) (by decide) ?_
    rintro _ T0_211 L0_211 X0_211 ⟨rfl, N0_211q, e0_211⟩
    have N0_211 := Fr.app Nhd0_210 N0_211q
    obtain ⟨Lhd0_212, Xhd0_212, Nhd0_212⟩ := own_hide X0_211 N0_211
    refine own_fw (fun _ => ox_goto Xhd0_212.here hx (pc0 := 274) (pc' := 278) rfl (hb hby at_274) (by decide) (by decide)) ?_
    refine own_fw (fun _ => ox_istore Xhd0_212.here hx (hb hby at_278) rfl (l' := #[.val (.int p0), .val (.int p1), .val (.int p2), .val (.int p3), .val (.ref b0_1), .val (.ref b0_5), .val (.ref b0_16), .val (.ref b0_58), .val (.int y4), .val (.int vr), .val (.int (2 : Int32)), .val (.int (1 : Int32)), .val (.int a), .val (.ref t0), .val (.int b), .unset]) rfl) ?_
    refine own_fw (fun _ => ox_iload Xhd0_212.here hx (hb hby at_280) rfl) ?_
    refine own_fw (fun _ => ox_iconst Xhd0_212.here hx (hb hby at_282)) ?_
    refine own_fw (fun _ => ox_icmpNo Xhd0_212.here hx (hb hby at_283) rfl (tlt (by decide : ((1 : Int32) < (2 : Int32)))).2.2.2) ?_
    refine own_fw (fun _ => ox_aload Xhd0_212.here hx (hb hby at_286) rfl rfl) ?_
    refine own_fw (fun _ => ox_iconst Xhd0_212.here hx (hb hby at_288)) ?_
    refine own_vc Xhd0_212 hx hZ hown (rmTE_1 l Z a0 hw [] b0_1 ta0_184 kt t1 (.ref t0) T0_184.heap n0 (Nat.le_trans zq2 K0_184.1) Ft0_184 Vt0_184) (own_w hw 230 rfl) (own_w hw 231 rfl) (own_w hw 233 rfl) (own_w hw 232 rfl) (own_w hw 234 rfl) (own_w hw 2 rfl) (by decide) hml rfl Ep0_184 e0_211 (hb hby at_289) rfl rfl (lenOf pd0_8 rfl) (W := 0) rfl (by decide) (by decide) (c' := 62) (s' := 432) rfl rfl (by decide) (by decide) ?_
    rintro _ T0_213 L0_213 X0_213 ⟨rfl, N0_213q, e0_213⟩
    have N0_213 := Fr.app Nhd0_212 N0_213q
    obtain ⟨Lhd0_214, Xhd0_214, Nhd0_214⟩ := own_hide X0_213 N0_213
    refine own_fw (fun _ => ox_goto Xhd0_214.here hx (pc0 := 292) (pc' := 296) rfl (hb hby at_292) (by decide) (by decide)) ?_
    refine own_fw (fun _ => ox_astore Xhd0_214.here hx (hb hby at_296) rfl rfl (l' := #[.val (.int p0), .val (.int p1), .val (.int p2), .val (.int p3), .val (.ref b0_1), .val (.ref b0_5), .val (.ref b0_16), .val (.ref b0_58), .val (.int y4), .val (.int vr), .val (.int (2 : Int32)), .val (.int (1 : Int32)), .val (.int a), .val (.ref t0), .val (.int b), .val (.ref t1)]) rfl) ?_
    refine own_fw (fun _ => ox_aload Xhd0_214.here hx (hb hby at_298) rfl rfl) ?_
    refine own_fw (fun _ => ox_aload Xhd0_214.here hx (hb hby at_300) rfl rfl) ?_
    refine own_vc Xhd0_214 hx hZ hown (rmEN_Z2 l Z a0 hw [] b0_5 b0_58 nb tb kn kt vr a b t0 t1 bc0_60 kb0_60 cc fv ra T0_184.heap n0 (Nat.le_trans zq2 K0_184.1) ⟨(Epq2.keep K0_184), fc0_185, fc0_186, fc0_187, fc0_188, fc0_189, fc0_190, (Enq2.keep K0_184), (Etq2.keep K0_184), Ovq2, ntq2⟩ (Ez.keep K0_184) fc0_191 fc0_192 fc0_193 g_b0_5 g_nb g_tb (Et0.keep K0_184) (Et1.keep K0_184) ha hnb ⟨(Oq2.keep K0_184 (allS g_b0_1 all0)), S_c, hcc, S_f, hfv, S_r⟩) (own_w hw 82 rfl) (own_w hw 83 rfl) (own_w hw 85 rfl) (own_w hw 84 rfl) (own_w hw 86 rfl) (own_w hw 2 rfl) (by decide) hml rfl (Epq2.keep K0_184) e0_213 (hb hby at_302) rfl rfl (lenOf pd0_5 rfl) (W := 0) rfl (by decide) (by decide) (c' := 65) (s' := 443) rfl rfl (by decide) (by decide) ?_
    rintro _ T0_215 L0_215 X0_215 ⟨rfl, N0_215q, K0_215, R0_215⟩
    have N0_215 := Fr.app Nhd0_214 N0_215q
    have fc0_220 := (Fn0_184.keep K0_215 (by simp only [List.mem_cons, List.not_mem_nil, or_false, not_or]; exact ⟨ne_b0_1_b0_5, m0q2, m1q2⟩))
    have fc0_221 := (Ft0_184.keep K0_215 (by simp only [List.mem_cons, List.not_mem_nil, or_false, not_or]; exact ⟨ne_b0_1_b0_5, m0q2, m1q2⟩))
    have fc0_222 := (Fs0_184.keep K0_215 (by simp only [List.mem_cons, List.not_mem_nil, or_false, not_or]; exact ⟨ne_b0_1_b0_5, m0q2, m1q2⟩))
    have fc0_223 := (Fv0_184.keep K0_215 (by simp only [List.mem_cons, List.not_mem_nil, or_false, not_or]; exact ⟨ne_b0_1_b0_5, m0q2, m1q2⟩))
    have fc0_224 := (Vn0_184.keep K0_215 (by simp only [List.mem_cons, List.not_mem_nil, or_false, not_or]; exact ⟨(Ne.symm ne_b0_5_na0_184), (Ne.symm ne_nb_na0_184), (Ne.symm ne_tb_na0_184)⟩))
    have fc0_225 := (Vt0_184.keep K0_215 (by simp only [List.mem_cons, List.not_mem_nil, or_false, not_or]; exact ⟨(Ne.symm ne_b0_5_ta0_184), (Ne.symm ne_nb_ta0_184), (Ne.symm ne_tb_ta0_184)⟩))
    obtain ⟨Lhd0_226, Xhd0_226, Nhd0_226⟩ := own_hide X0_215 N0_215
    refine own_fw (fun _ => ox_pop Xhd0_226.here hx (hb hby at_305) rfl rfl) ?_
    refine own_fw (fun _ => ox_aload Xhd0_226.here hx (hb hby at_306) rfl rfl) ?_
    refine own_vc Xhd0_226 hx hZ hown (rm9 l Z a0 hw [] b0_1 (2 : Int32) T0_215.heap n0 (Nat.le_trans (Nat.le_trans zq2 K0_184.1) K0_215.1) fc0_222) (own_w hw 51 rfl) (own_w hw 52 rfl) (own_w hw 54 rfl) (own_w hw 53 rfl) (own_w hw 55 rfl) (own_w hw 2 rfl) (by decide) hml rfl (Ep0_184.keep K0_215) rfl (hb hby at_308) rfl rfl (lenOf pd0_2 rfl) (W := 0) rfl (by decide) (by decide) (c' := 65) (s' := 443) rfl rfl (by decide) (by decide) ?_
    rintro _ T0_227 L0_227 X0_227 ⟨rfl, N0_227q, e0_227⟩
    have N0_227 := Fr.app Nhd0_226 N0_227q
    obtain ⟨Lhd0_228, Xhd0_228, Nhd0_228⟩ := own_hide X0_227 N0_227
    refine own_fw (fun _ => ox_iload Xhd0_228.here hx (hb hby at_311) rfl) ?_
    refine own_fw (fun _ => ox_icmpNo Xhd0_228.here hx (hb hby at_313) rfl (teq (rfl : (2 : Int32) = (2 : Int32))).2) ?_
    refine own_fw (fun _ => ox_aload Xhd0_228.here hx (hb hby at_316) rfl rfl) ?_
    refine own_vc Xhd0_228 hx hZ hown (rm8 l Z a0 hw [] b0_1 (y4 + (1 : Int32)) T0_215.heap n0 (Nat.le_trans (Nat.le_trans zq2 K0_184.1) K0_215.1) fc0_223) (own_w hw 44 rfl) (own_w hw 45 rfl) (own_w hw 47 rfl) (own_w hw 46 rfl) (own_w hw 48 rfl) (own_w hw 2 rfl) (by decide) hml rfl (Ep0_184.keep K0_215) e0_227 (hb hby at_318) rfl rfl (lenOf pd0_2 rfl) (W := 0) rfl (by decide) (by decide) (c' := 65) (s' := 443) rfl rfl (by decide) (by decide) ?_
    rintro _ T0_229 L0_229 X0_229 ⟨rfl, N0_229q, e0_229⟩
    have N0_229 := Fr.app Nhd0_228 N0_229q
    obtain ⟨Lhd0_230, Xhd0_230, Nhd0_230⟩ := own_hide X0_229 N0_229
    refine own_fw (fun _ => ox_iload Xhd0_230.here hx (hb hby at_321) rfl) ?_
    refine own_fw (fun _ => ox_iconst Xhd0_230.here hx (hb hby at_323)) ?_
    refine own_fw (fun _ => ox_iadd Xhd0_230.here hx (hb hby at_324) rfl) ?_
    refine own_fw (fun _ => ox_icmpNo Xhd0_230.here hx (hb hby at_325) rfl (teq (rfl : (y4 + (1 : Int32)) = (y4 + (1 : Int32)))).2) ?_
    refine own_fw (fun _ => ox_aload Xhd0_230.here hx (hb hby at_328) rfl rfl) ?_
    refine own_fw (fun _ => ox_iconst Xhd0_230.here hx (hb hby at_330)) ?_
    refine own_fw (fun _ => ox_iload Xhd0_230.here hx (hb hby at_331) rfl) ?_
    refine own_fw (fun _ => ox_iload Xhd0_230.here hx (hb hby at_333) rfl) ?_
    refine own_fw (fun _ => ox_aload Xhd0_230.here hx (hb hby at_335) rfl rfl) ?_
    refine own_sc Xhd0_230 hx hZ hown (rmKP_0 l Z a0 hw [] b0_1 (2 : Int32) na0_184 ta0_184 kn kt (y4 + (1 : Int32)) a b t0 (.ref t1) (2 : Int32) T0_215.heap n0 (Nat.le_trans (Nat.le_trans zq2 K0_184.1) K0_215.1) ⟨(Ep0_184.keep K0_215), fc0_220, fc0_221, fc0_222, fc0_223, fc0_224, fc0_225, (En0_184.keep K0_215), (Et0_184.keep K0_215), Ov0_184, nt0_184⟩ ((Et0.keep K0_184).keep K0_215) (by decide)) (own_w hw 219 rfl) (own_w hw 220 rfl) (own_w hw 221 rfl) (own_w hw 80 rfl) (by decide) hml rfl e0_229 (hb hby at_337) rfl rfl (lenOf pd0_6 rfl) (W := 0) rfl (by decide) (by decide) (c' := 65) (s' := 443) rfl rfl (by decide) (by decide) ?_
    rintro _ T0_231 L0_231 X0_231 ⟨rfl, N0_231q, e0_231⟩
    have N0_231 := Fr.app Nhd0_230 N0_231q
    obtain ⟨Lhd0_232, Xhd0_232, Nhd0_232⟩ := own_hide X0_231 N0_231
    refine own_fw (fun _ => ox_ifNo Xhd0_232.here hx (hb hby at_340) rfl ((if0 _ _).trans (feq (by decide : ¬ ((1 : Int32) = (0 : Int32)))).1)) ?_
    refine own_fw (fun _ => ox_aload Xhd0_232.here hx (hb hby at_343) rfl rfl) ?_
    refine own_fw (fun _ => ox_iconst Xhd0_232.here hx (hb hby at_345)) ?_
    refine own_fw (fun _ => ox_iload Xhd0_232.here hx (hb hby at_346) rfl) ?_
    refine own_fw (fun _ => ox_iload Xhd0_232.here hx (hb hby at_348) rfl) ?_
    refine own_fw (fun _ => ox_aload Xhd0_232.here hx (hb hby at_350) rfl rfl) ?_
    refine own_sc Xhd0_232 hx hZ hown (rmKP_1 l Z a0 hw [] b0_1 (2 : Int32) na0_184 ta0_184 kn kt (y4 + (1 : Int32)) a b t1 (.ref t0) (2 : Int32) T0_215.heap n0 (Nat.le_trans (Nat.le_trans zq2 K0_184.1) K0_215.1) ⟨(Ep0_184.keep K0_215), fc0_220, fc0_221, fc0_222, fc0_223, fc0_224, fc0_225, (En0_184.keep K0_215), (Et0_184.keep K0_215), Ov0_184, nt0_184⟩ ((Et1.keep K0_184).keep K0_215) (by decide)) (own_w hw 219 rfl) (own_w hw 220 rfl) (own_w hw 221 rfl) (own_w hw 80 rfl) (by decide) hml rfl e0_231 (hb hby at_352) rfl rfl (lenOf pd0_6 rfl) (W := 0) rfl (by decide) (by decide) (c' := 65) (s' := 443) rfl rfl (by decide) (by decide) ?_
    rintro _ T0_233 L0_233 X0_233 ⟨rfl, N0_233q, e0_233⟩
    have N0_233 := Fr.app Nhd0_232 N0_233q
    obtain ⟨Lhd0_234, Xhd0_234, Nhd0_234⟩ := own_hide X0_233 N0_233
    refine own_fw (fun _ => ox_ifNo Xhd0_234.here hx (hb hby at_355) rfl ((if0 _ _).trans (feq (by decide : ¬ ((1 : Int32) = (0 : Int32)))).1)) ?_
    refine own_fw (fun _ => ox_iconst Xhd0_234.here hx (hb hby at_358)) ?_
    refine own_fw (fun _ => ox_goto Xhd0_234.here hx (pc0 := 359) (pc' := 363) rfl (hb hby at_359) (by decide) (by decide)) ?_
    exact own_PP hPP (own_leaf Xhd0_234 (v := some (.int (nar .boolean (1 : Int32)))) (own_ret Bd.returns) (BodyLoose.notSynchronized Bd) e0_233 (⟨rfl, Nhd0_234⟩) (by decide) (by decide) (fun fs hr => retN Xhd0_234 hx (t := .boolean) Bd.returns (by simp) (hb hby at_363) hr))
  obtain ⟨Lhd0_235, Xhd0_235, Nhd0_235⟩ := own_hide Xhd0_75 Nhd0_75
  refine own_fw (fun _ => ox_iloadN Xhd0_235.here hx (hb hby at_58) rfl) ?_
  refine own_fw (fun _ => ox_iconst Xhd0_235.here hx (hb hby at_59)) ?_
  refine own_fw (fun _ => ox_iand Xhd0_235.here hx (hb hby at_60) rfl) ?_
  by_cases hc0_1 : (p0 &&& (1 : Int32)) = (0 : Int32)
  · refine own_fw (fun _ => ox_ifYes Xhd0_235.here hx (pc0 := 61) (pc' := 74) rfl (hb hby at_61) rfl ((if0 _ _).trans (teq hc0_1).1) (by decide) (by decide)) ?_
    refine own_fw (fun _ => ox_iloadN Xhd0_235.here hx (hb hby at_74) rfl) ?_
    refine own_fw (fun _ => ox_iconst Xhd0_235.here hx (hb hby at_75)) ?_
    refine own_fw (fun _ => ox_iand Xhd0_235.here hx (hb hby at_76) rfl) ?_
    by_cases hc0_2 : (p0 &&& (2 : Int32)) = (0 : Int32)
    · refine own_fw (fun _ => ox_ifYes Xhd0_235.here hx (pc0 := 77) (pc' := 90) rfl (hb hby at_77) rfl ((if0 _ _).trans (teq hc0_2).1) (by decide) (by decide)) ?_
      refine own_fw (fun _ => ox_iloadN Xhd0_235.here hx (hb hby at_90) rfl) ?_
      refine own_fw (fun _ => ox_iconst Xhd0_235.here hx (hb hby at_91)) ?_
      refine own_fw (fun _ => ox_iand Xhd0_235.here hx (hb hby at_92) rfl) ?_
      by_cases hc0_3 : (p0 &&& (4 : Int32)) = (0 : Int32)
      · refine own_fw (fun _ => ox_ifYes Xhd0_235.here hx (pc0 := 93) (pc' := 106) rfl (hb hby at_93) rfl ((if0 _ _).trans (teq hc0_3).1) (by decide) (by decide)) ?_
        exact tail0 T0_60 T0_60.heap _ (Xhd0_235.more (by decide) (by decide)) rfl Nhd0_235 (Nat.le_trans fc0_59 K0_60.1) fc0_61 na0_3 ta0_3 (0 : Int32) (0 : Int32) ((((fc0_21.wr W0_37).wr W0_41).ext E0_58).keep K0_60) fc0_62 fc0_63 fc0_64 fc0_65 na0_7 ta0_7 kn0_7 kt0_7 (0 : Int32) ⟨((fc0_48.ext E0_58).keep K0_60), fc0_68, fc0_69, fc0_70, fc0_71, fc0_72, fc0_73, ((fc0_55.ext E0_58).keep K0_60), ((fc0_56.ext E0_58).keep K0_60), Ov0_7, nt0_7⟩ E0_60 Sv0_60 Sc0_60 Vc0_60 g_na0_7 g_ta0_7 (Ne.symm ne_na0_7_bc0_60) (Ne.symm ne_ta0_7_bc0_60)
      · refine own_fw (fun _ => ox_ifNo Xhd0_235.here hx (hb hby at_93) rfl ((if0 _ _).trans (feq hc0_3).1)) ?_
        refine own_fw (fun _ => ox_aload Xhd0_235.here hx (hb hby at_96) rfl rfl) ?_
        refine own_fw (fun _ => ox_iloadN Xhd0_235.here hx (hb hby at_98) rfl) ?_
        refine own_sc Xhd0_235 hx hZ hown (rm41 l Z a0 hw [] p3 cc fv ra T0_60.heap n0 (Nat.le_trans fc0_59 K0_60.1)  ⟨fc0_61, S_c, hcc, S_f, hfv, S_r⟩) (own_w hw 222 rfl) (own_w hw 223 rfl) (own_w hw 224 rfl) (own_w hw 80 rfl) (by decide) hml rfl rfl (hb hby at_99) rfl rfl (lenOf pd0_8 rfl) (W := 1) rfl (by decide) (by decide) (c' := 12) (s' := 98) rfl rfl (by decide) (by decide) ?_
        rintro _ T0_236 L0_236 X0_236 ⟨rs0_236, bs0_236, kb0_236, x0_0_236, x1_0_236, x2_0_236, x4_0_236, rfl, N0_236q, K0_236, E0_236, Sv0_236, Sc0_236, Vb0_236, d0_0_236, d1_0_236, d2_0_236, l4_0_236, zr0_236, zb0_236⟩
        have N0_236 := Fr.app Nhd0_235 N0_236q
        have fc0_237 := (((((fc0_21.wr W0_37).wr W0_41).ext E0_58).keep K0_60).keep K0_236)
        obtain ⟨Lhd0_240, Xhd0_240, Nhd0_240⟩ := own_hide X0_236 N0_236
        refine own_vc Xhd0_240 hx hZ hown (rmEN_L0 l Z a0 hw [] b0_5 rs0_236 na0_7 ta0_7 kn0_7 kt0_7 (0 : Int32) bs0_236 kb0_236 x0_0_236 x1_0_236 x2_0_236 x4_0_236 cc fv ra T0_236.heap n0 (Nat.le_trans (Nat.le_trans fc0_59 K0_60.1) K0_236.1) ⟨(((fc0_48.ext E0_58).keep K0_60).keep K0_236), (fc0_68.keep K0_236 (fun q => nomatch q)), (fc0_69.keep K0_236 (fun q => nomatch q)), (fc0_70.keep K0_236 (fun q => nomatch q)), (fc0_71.keep K0_236 (fun q => nomatch q)), (fc0_72.keep K0_236 (fun q => nomatch q)), (fc0_73.keep K0_236 (fun q => nomatch q)), (((fc0_55.ext E0_58).keep K0_60).keep K0_236), (((fc0_56.ext E0_58).keep K0_60).keep K0_236), Ov0_7, nt0_7⟩ E0_236 Sv0_236 Sc0_236 Vb0_236 d0_0_236 d1_0_236 d2_0_236 l4_0_236 g_b0_5 g_na0_7 g_ta0_7 ⟨(fc0_61.keep K0_236 all0), S_c, hcc, S_f, hfv, S_r⟩) (own_w hw 82 rfl) (own_w hw 83 rfl) (own_w hw 85 rfl) (own_w hw 84 rfl) (own_w hw 86 rfl) (own_w hw 2 rfl) (by decide) hml rfl (((fc0_48.ext E0_58).keep K0_60).keep K0_236) rfl (hb hby at_102) rfl rfl (lenOf pd0_5 rfl) (W := 0) rfl (by decide) (by decide) (c' := 15) (s' := 108) rfl rfl (by decide) (by decide) ?_
        rintro _ T0_241 L0_241 X0_241 ⟨rfl, N0_241q, K0_241, va0_241, vt0_241, ha0_241, Et_0_241, ⟨Ep0_241, Fn0_241, Ft0_241, Fs0_241, Fv0_241, Vn0_241, Vt0_241, En0_241, Et0_241, Ov0_241, nt0_241⟩⟩
        have N0_241 := Fr.app Nhd0_240 N0_241q
        have fc0_242 := ((fc0_61.keep K0_236 all0).keep K0_241 (allS g_b0_5 (allS g_na0_7 (allS g_ta0_7 all0))))
        have fc0_243 := ((fc0_62.keep K0_236 (fun q => nomatch q)).keep K0_241 (by simp only [List.mem_cons, List.not_mem_nil, or_false, not_or]; exact ⟨ne_b0_1_b0_5, ne_b0_1_na0_7, ne_b0_1_ta0_7⟩))
        have fc0_244 := ((fc0_63.keep K0_236 (fun q => nomatch q)).keep K0_241 (by simp only [List.mem_cons, List.not_mem_nil, or_false, not_or]; exact ⟨ne_b0_1_b0_5, ne_b0_1_na0_7, ne_b0_1_ta0_7⟩))
        have fc0_245 := ((fc0_64.keep K0_236 (fun q => nomatch q)).keep K0_241 (by simp only [List.mem_cons, List.not_mem_nil, or_false, not_or]; exact ⟨ne_b0_1_b0_5, ne_b0_1_na0_7, ne_b0_1_ta0_7⟩))
        have fc0_246 := ((fc0_65.keep K0_236 (fun q => nomatch q)).keep K0_241 (by simp only [List.mem_cons, List.not_mem_nil, or_false, not_or]; exact ⟨ne_b0_1_b0_5, ne_b0_1_na0_7, ne_b0_1_ta0_7⟩))
        have fc0_250 := ((Sv0_60.keep K0_236 (fun q => nomatch q)).keep K0_241 (by simp only [List.mem_cons, List.not_mem_nil, or_false, not_or]; exact ⟨(Ne.symm ne_b0_5_b0_58), (Ne.symm ne_na0_7_b0_58), (Ne.symm ne_ta0_7_b0_58)⟩))
        have fc0_251 := ((Sc0_60.keep K0_236 (fun q => nomatch q)).keep K0_241 (by simp only [List.mem_cons, List.not_mem_nil, or_false, not_or]; exact ⟨(Ne.symm ne_b0_5_b0_58), (Ne.symm ne_na0_7_b0_58), (Ne.symm ne_ta0_7_b0_58)⟩))
        have fc0_252 := ((Vc0_60.keep K0_236 (fun q => nomatch q)).keep K0_241 (by simp only [List.mem_cons, List.not_mem_nil, or_false, not_or]; exact ⟨(Ne.symm ne_b0_5_bc0_60), (Ne.symm ne_na0_7_bc0_60), (Ne.symm ne_ta0_7_bc0_60)⟩))
        have fc0_256 := (Nat.le_trans (Nat.le_trans (Nat.le_trans fc0_59 K0_60.1) K0_236.1) K0_241.1)
        obtain ⟨Lhd0_257, Xhd0_257, Nhd0_257⟩ := own_hide X0_241 N0_241
        refine own_fw (fun _ => ox_pop Xhd0_257.here hx (hb hby at_105) rfl rfl) ?_
        exact tail1 T0_241 T0_241.heap _ (Xhd0_257.more (by decide) (by decide)) rfl Nhd0_257 fc0_256 fc0_242 na0_3 ta0_3 (0 : Int32) (0 : Int32) (fc0_237.keep K0_241) fc0_243 fc0_244 fc0_245 fc0_246 na0_7 ta0_7 kn0_7 kt0_7 ((0 : Int32) + (1 : Int32)) va0_241 vt0_241 ⟨Ep0_241, Fn0_241, Ft0_241, Fs0_241, Fv0_241, Vn0_241, Vt0_241, En0_241, Et0_241, Ov0_241, nt0_241⟩ Et_0_241 ha0_241 ((E0_60.keep K0_236).keep K0_241) fc0_250 fc0_251 fc0_252 g_na0_7 g_ta0_7 (Ne.symm ne_na0_7_bc0_60) (Ne.symm ne_ta0_7_bc0_60)
    · refine own_fw (fun _ => ox_ifNo Xhd0_235.here hx (hb hby at_77) rfl ((if0 _ _).trans (feq hc0_2).1)) ?_
      refine own_fw (fun _ => ox_aload Xhd0_235.here hx (hb hby at_80) rfl rfl) ?_
      refine own_fw (fun _ => ox_iloadN Xhd0_235.here hx (hb hby at_82) rfl) ?_
      refine own_sc Xhd0_235 hx hZ hown (rm41 l Z a0 hw [] p2 cc fv ra T0_60.heap n0 (Nat.le_trans fc0_59 K0_60.1)  ⟨fc0_61, S_c, hcc, S_f, hfv, S_r⟩) (own_w hw 222 rfl) (own_w hw 223 rfl) (own_w hw 224 rfl) (own_w hw 80 rfl) (by decide) hml rfl rfl (hb hby at_83) rfl rfl (lenOf pd0_8 rfl) (W := 1) rfl (by decide) (by decide) (c' := 12) (s' := 98) rfl rfl (by decide) (by decide) ?_
      rintro _ T0_258 L0_258 X0_258 ⟨rs0_258, bs0_258, kb0_258, x0_0_258, x1_0_258, x2_0_258, x4_0_258, rfl, N0_258q, K0_258, E0_258, Sv0_258, Sc0_258, Vb0_258, d0_0_258, d1_0_258, d2_0_258, l4_0_258, zr0_258, zb0_258⟩
      have N0_258 := Fr.app Nhd0_235 N0_258q
      have fc0_259 := (((((fc0_21.wr W0_37).wr W0_41).ext E0_58).keep K0_60).keep K0_258)
      obtain ⟨Lhd0_262, Xhd0_262, Nhd0_262⟩ := own_hide X0_258 N0_258
      refine own_vc Xhd0_262 hx hZ hown (rmEN_L0 l Z a0 hw [] b0_5 rs0_258 na0_7 ta0_7 kn0_7 kt0_7 (0 : Int32) bs0_258 kb0_258 x0_0_258 x1_0_258 x2_0_258 x4_0_258 cc fv ra T0_258.heap n0 (Nat.le_trans (Nat.le_trans fc0_59 K0_60.1) K0_258.1) ⟨(((fc0_48.ext E0_58).keep K0_60).keep K0_258), (fc0_68.keep K0_258 (fun q => nomatch q)), (fc0_69.keep K0_258 (fun q => nomatch q)), (fc0_70.keep K0_258 (fun q => nomatch q)), (fc0_71.keep K0_258 (fun q => nomatch q)), (fc0_72.keep K0_258 (fun q => nomatch q)), (fc0_73.keep K0_258 (fun q => nomatch q)), (((fc0_55.ext E0_58).keep K0_60).keep K0_258), (((fc0_56.ext E0_58).keep K0_60).keep K0_258), Ov0_7, nt0_7⟩ E0_258 Sv0_258 Sc0_258 Vb0_258 d0_0_258 d1_0_258 d2_0_258 l4_0_258 g_b0_5 g_na0_7 g_ta0_7 ⟨(fc0_61.keep K0_258 all0), S_c, hcc, S_f, hfv, S_r⟩) (own_w hw 82 rfl) (own_w hw 83 rfl) (own_w hw 85 rfl) (own_w hw 84 rfl) (own_w hw 86 rfl) (own_w hw 2 rfl) (by decide) hml rfl (((fc0_48.ext E0_58).keep K0_60).keep K0_258) rfl (hb hby at_86) rfl rfl (lenOf pd0_5 rfl) (W := 0) rfl (by decide) (by decide) (c' := 15) (s' := 108) rfl rfl (by decide) (by decide) ?_
      rintro _ T0_263 L0_263 X0_263 ⟨rfl, N0_263q, K0_263, va0_263, vt0_263, ha0_263, Et_0_263, ⟨Ep0_263, Fn0_263, Ft0_263, Fs0_263, Fv0_263, Vn0_263, Vt0_263, En0_263, Et0_263, Ov0_263, nt0_263⟩⟩
      have N0_263 := Fr.app Nhd0_262 N0_263q
      have fc0_264 := ((fc0_61.keep K0_258 all0).keep K0_263 (allS g_b0_5 (allS g_na0_7 (allS g_ta0_7 all0))))
      have fc0_265 := ((fc0_62.keep K0_258 (fun q => nomatch q)).keep K0_263 (by simp only [List.mem_cons, List.not_mem_nil, or_false, not_or]; exact ⟨ne_b0_1_b0_5, ne_b0_1_na0_7, ne_b0_1_ta0_7⟩))
      have fc0_266 := ((fc0_63.keep K0_258 (fun q => nomatch q)).keep K0_263 (by simp only [List.mem_cons, List.not_mem_nil, or_false, not_or]; exact ⟨ne_b0_1_b0_5, ne_b0_1_na0_7, ne_b0_1_ta0_7⟩))
      have fc0_267 := ((fc0_64.keep K0_258 (fun q => nomatch q)).keep K0_263 (by simp only [List.mem_cons, List.not_mem_nil, or_false, not_or]; exact ⟨ne_b0_1_b0_5, ne_b0_1_na0_7, ne_b0_1_ta0_7⟩))
      have fc0_268 := ((fc0_65.keep K0_258 (fun q => nomatch q)).keep K0_263 (by simp only [List.mem_cons, List.not_mem_nil, or_false, not_or]; exact ⟨ne_b0_1_b0_5, ne_b0_1_na0_7, ne_b0_1_ta0_7⟩))
      have fc0_272 := ((Sv0_60.keep K0_258 (fun q => nomatch q)).keep K0_263 (by simp only [List.mem_cons, List.not_mem_nil, or_false, not_or]; exact ⟨(Ne.symm ne_b0_5_b0_58), (Ne.symm ne_na0_7_b0_58), (Ne.symm ne_ta0_7_b0_58)⟩))
      have fc0_273 := ((Sc0_60.keep K0_258 (fun q => nomatch q)).keep K0_263 (by simp only [List.mem_cons, List.not_mem_nil, or_false, not_or]; exact ⟨(Ne.symm ne_b0_5_b0_58), (Ne.symm ne_na0_7_b0_58), (Ne.symm ne_ta0_7_b0_58)⟩))
      have fc0_274 := ((Vc0_60.keep K0_258 (fun q => nomatch q)).keep K0_263 (by simp only [List.mem_cons, List.not_mem_nil, or_false, not_or]; exact ⟨(Ne.symm ne_b0_5_bc0_60), (Ne.symm ne_na0_7_bc0_60), (Ne.symm ne_ta0_7_bc0_60)⟩))
      have fc0_278 := (Nat.le_trans (Nat.le_trans (Nat.le_trans fc0_59 K0_60.1) K0_258.1) K0_263.1)
      obtain ⟨Lhd0_279, Xhd0_279, Nhd0_279⟩ := own_hide X0_263 N0_263
      refine own_fw (fun _ => ox_pop Xhd0_279.here hx (hb hby at_89) rfl rfl) ?_
      refine own_fw (fun _ => ox_iloadN Xhd0_279.here hx (hb hby at_90) rfl) ?_
      refine own_fw (fun _ => ox_iconst Xhd0_279.here hx (hb hby at_91)) ?_
      refine own_fw (fun _ => ox_iand Xhd0_279.here hx (hb hby at_92) rfl) ?_
      by_cases hc0_4 : (p0 &&& (4 : Int32)) = (0 : Int32)
      · refine own_fw (fun _ => ox_ifYes Xhd0_279.here hx (pc0 := 93) (pc' := 106) rfl (hb hby at_93) rfl ((if0 _ _).trans (teq hc0_4).1) (by decide) (by decide)) ?_
        exact tail1 T0_263 T0_263.heap _ (Xhd0_279.more (by decide) (by decide)) rfl Nhd0_279 fc0_278 fc0_264 na0_3 ta0_3 (0 : Int32) (0 : Int32) (fc0_259.keep K0_263) fc0_265 fc0_266 fc0_267 fc0_268 na0_7 ta0_7 kn0_7 kt0_7 ((0 : Int32) + (1 : Int32)) va0_263 vt0_263 ⟨Ep0_263, Fn0_263, Ft0_263, Fs0_263, Fv0_263, Vn0_263, Vt0_263, En0_263, Et0_263, Ov0_263, nt0_263⟩ Et_0_263 ha0_263 ((E0_60.keep K0_258).keep K0_263) fc0_272 fc0_273 fc0_274 g_na0_7 g_ta0_7 (Ne.symm ne_na0_7_bc0_60) (Ne.symm ne_ta0_7_bc0_60)
      · refine own_fw (fun _ => ox_ifNo Xhd0_279.here hx (hb hby at_93) rfl ((if0 _ _).trans (feq hc0_4).1)) ?_
        refine own_fw (fun _ => ox_aload Xhd0_279.here hx (hb hby at_96) rfl rfl) ?_
        refine own_fw (fun _ => ox_iloadN Xhd0_279.here hx (hb hby at_98) rfl) ?_
        refine own_sc Xhd0_279 hx hZ hown (rm41 l Z a0 hw [] p3 cc fv ra T0_263.heap n0 fc0_278  ⟨fc0_264, S_c, hcc, S_f, hfv, S_r⟩) (own_w hw 222 rfl) (own_w hw 223 rfl) (own_w hw 224 rfl) (own_w hw 80 rfl) (by decide) hml rfl rfl (hb hby at_99) rfl rfl (lenOf pd0_8 rfl) (W := 1) rfl (by decide) (by decide) (c' := 18) (s' := 122) rfl rfl (by decide) (by decide) ?_
        rintro _ T0_280 L0_280 X0_280 ⟨rs0_280, bs0_280, kb0_280, x0_0_280, x1_0_280, x2_0_280, x4_0_280, rfl, N0_280q, K0_280, E0_280, Sv0_280, Sc0_280, Vb0_280, d0_0_280, d1_0_280, d2_0_280, l4_0_280, zr0_280, zb0_280⟩
        have N0_280 := Fr.app Nhd0_279 N0_280q
        obtain ⟨Lhd0_281, Xhd0_281, Nhd0_281⟩ := own_hide X0_280 N0_280
        refine own_vc Xhd0_281 hx hZ hown (rmEN_L1 l Z a0 hw [] b0_5 rs0_280 na0_7 ta0_7 kn0_7 kt0_7 ((0 : Int32) + (1 : Int32)) va0_263 vt0_263 bs0_280 kb0_280 x0_0_280 x1_0_280 x2_0_280 x4_0_280 cc fv ra T0_280.heap n0 (Nat.le_trans fc0_278 K0_280.1) ⟨(Ep0_263.keep K0_280), (Fn0_263.keep K0_280 (fun q => nomatch q)), (Ft0_263.keep K0_280 (fun q => nomatch q)), (Fs0_263.keep K0_280 (fun q => nomatch q)), (Fv0_263.keep K0_280 (fun q => nomatch q)), (Vn0_263.keep K0_280 (fun q => nomatch q)), (Vt0_263.keep K0_280 (fun q => nomatch q)), (En0_263.keep K0_280), (Et0_263.keep K0_280), Ov0_263, nt0_263⟩ E0_280 Sv0_280 Sc0_280 Vb0_280 d0_0_280 d1_0_280 d2_0_280 l4_0_280 g_b0_5 g_na0_7 g_ta0_7 (Et_0_263.keep K0_280) ha0_263 ⟨(fc0_264.keep K0_280 all0), S_c, hcc, S_f, hfv, S_r⟩) (own_w hw 82 rfl) (own_w hw 83 rfl) (own_w hw 85 rfl) (own_w hw 84 rfl) (own_w hw 86 rfl) (own_w hw 2 rfl) (by decide) hml rfl (Ep0_263.keep K0_280) rfl (hb hby at_102) rfl rfl (lenOf pd0_5 rfl) (W := 0) rfl (by decide) (by decide) (c' := 21) (s' := 132) rfl rfl (by decide) (by decide) ?_
        rintro _ T0_282 L0_282 X0_282 ⟨rfl, N0_282q, K0_282, R0_282⟩
        have N0_282 := Fr.app Nhd0_281 N0_282q
        rcases R0_282 with ⟨va0_282, vt0_282, ha0_282, Et_0_282, ⟨Ep0_282, Fn0_282, Ft0_282, Fs0_282, Fv0_282, Vn0_282, Vt0_282, En0_282, Et0_282, Ov0_282, nt0_282⟩⟩ | ⟨va0_282, vb0_282, vt0_282, vu0_282, ha0_282, hb0_282, Et_0_282, Eu_0_282, ⟨Ep0_282, Fn0_282, Ft0_282, Fs0_282, Fv0_282, Vn0_282, Vt0_282, En0_282, Et0_282, Ov0_282, nt0_282⟩⟩
        · have npn0_282 : b0_5 ≠ na0_7 := Exa.neArv Ep0_282 Vn0_282 (own_w hw 1 rfl)
          have npt0_282 : b0_5 ≠ ta0_7 := Exa.neArv Ep0_282 Vt0_282 (own_w hw 1 rfl)
          refine own_fw (fun _ => ox_pop X0_282.here hx (hb hby at_105) rfl rfl) ?_
          exact tail1 T0_282 T0_282.heap _ (X0_282.more (by decide) (by decide)) rfl N0_282 (Nat.le_trans (Nat.le_trans fc0_278 K0_280.1) K0_282.1) ((fc0_264.keep K0_280 all0).keep K0_282 (allS g_b0_5 (allS g_na0_7 (allS g_ta0_7 all0)))) na0_3 ta0_3 (0 : Int32) (0 : Int32) (((fc0_259.keep K0_263).keep K0_280).keep K0_282) ((fc0_265.keep K0_280 (fun q => nomatch q)).keep K0_282 (by simp only [List.mem_cons, List.not_mem_nil, or_false, not_or]; exact ⟨ne_b0_1_b0_5, ne_b0_1_na0_7, ne_b0_1_ta0_7⟩)) ((fc0_266.keep K0_280 (fun q => nomatch q)).keep K0_282 (by simp only [List.mem_cons, List.not_mem_nil, or_false, not_or]; exact ⟨ne_b0_1_b0_5, ne_b0_1_na0_7, ne_b0_1_ta0_7⟩)) ((fc0_267.keep K0_280 (fun q => nomatch q)).keep K0_282 (by simp only [List.mem_cons, List.not_mem_nil, or_false, not_or]; exact ⟨ne_b0_1_b0_5, ne_b0_1_na0_7, ne_b0_1_ta0_7⟩)) ((fc0_268.keep K0_280 (fun q => nomatch q)).keep K0_282 (by simp only [List.mem_cons, List.not_mem_nil, or_false, not_or]; exact ⟨ne_b0_1_b0_5, ne_b0_1_na0_7, ne_b0_1_ta0_7⟩)) na0_7 ta0_7 kn0_7 kt0_7 (((0 : Int32) + (1 : Int32)) + (1 : Int32)) va0_282 vt0_282 ⟨Ep0_282, Fn0_282, Ft0_282, Fs0_282, Fv0_282, Vn0_282, Vt0_282, En0_282, Et0_282, Ov0_282, nt0_282⟩ Et_0_282 ha0_282 ((((E0_60.keep K0_258).keep K0_263).keep K0_280).keep K0_282) ((fc0_272.keep K0_280 (fun q => nomatch q)).keep K0_282 (by simp only [List.mem_cons, List.not_mem_nil, or_false, not_or]; exact ⟨(Ne.symm ne_b0_5_b0_58), (Ne.symm ne_na0_7_b0_58), (Ne.symm ne_ta0_7_b0_58)⟩)) ((fc0_273.keep K0_280 (fun q => nomatch q)).keep K0_282 (by simp only [List.mem_cons, List.not_mem_nil, or_false, not_or]; exact ⟨(Ne.symm ne_b0_5_b0_58), (Ne.symm ne_na0_7_b0_58), (Ne.symm ne_ta0_7_b0_58)⟩)) ((fc0_274.keep K0_280 (fun q => nomatch q)).keep K0_282 (by simp only [List.mem_cons, List.not_mem_nil, or_false, not_or]; exact ⟨(Ne.symm ne_b0_5_bc0_60), (Ne.symm ne_na0_7_bc0_60), (Ne.symm ne_ta0_7_bc0_60)⟩)) g_na0_7 g_ta0_7 (Ne.symm ne_na0_7_bc0_60) (Ne.symm ne_ta0_7_bc0_60)
        · have npn0_282 : b0_5 ≠ na0_7 := Exa.neArv Ep0_282 Vn0_282 (own_w hw 1 rfl)
          have npt0_282 : b0_5 ≠ ta0_7 := Exa.neArv Ep0_282 Vt0_282 (own_w hw 1 rfl)
          refine own_fw (fun _ => ox_pop X0_282.here hx (hb hby at_105) rfl rfl) ?_
          exact tail2 T0_282 T0_282.heap _ (X0_282.more (by decide) (by decide)) rfl N0_282 (Nat.le_trans (Nat.le_trans fc0_278 K0_280.1) K0_282.1) ((fc0_264.keep K0_280 all0).keep K0_282 (allS g_b0_5 (allS g_na0_7 (allS g_ta0_7 all0)))) na0_3 ta0_3 (0 : Int32) (0 : Int32) (((fc0_259.keep K0_263).keep K0_280).keep K0_282) ((fc0_265.keep K0_280 (fun q => nomatch q)).keep K0_282 (by simp only [List.mem_cons, List.not_mem_nil, or_false, not_or]; exact ⟨ne_b0_1_b0_5, ne_b0_1_na0_7, ne_b0_1_ta0_7⟩)) ((fc0_266.keep K0_280 (fun q => nomatch q)).keep K0_282 (by simp only [List.mem_cons, List.not_mem_nil, or_false, not_or]; exact ⟨ne_b0_1_b0_5, ne_b0_1_na0_7, ne_b0_1_ta0_7⟩)) ((fc0_267.keep K0_280 (fun q => nomatch q)).keep K0_282 (by simp only [List.mem_cons, List.not_mem_nil, or_false, not_or]; exact ⟨ne_b0_1_b0_5, ne_b0_1_na0_7, ne_b0_1_ta0_7⟩)) ((fc0_268.keep K0_280 (fun q => nomatch q)).keep K0_282 (by simp only [List.mem_cons, List.not_mem_nil, or_false, not_or]; exact ⟨ne_b0_1_b0_5, ne_b0_1_na0_7, ne_b0_1_ta0_7⟩)) na0_7 ta0_7 kn0_7 kt0_7 (((0 : Int32) + (1 : Int32)) + (1 : Int32)) va0_282 vb0_282 vt0_282 vu0_282 ⟨Ep0_282, Fn0_282, Ft0_282, Fs0_282, Fv0_282, Vn0_282, Vt0_282, En0_282, Et0_282, Ov0_282, nt0_282⟩ Et_0_282 Eu_0_282 ha0_282 hb0_282 ((((E0_60.keep K0_258).keep K0_263).keep K0_280).keep K0_282) ((fc0_272.keep K0_280 (fun q => nomatch q)).keep K0_282 (by simp only [List.mem_cons, List.not_mem_nil, or_false, not_or]; exact ⟨(Ne.symm ne_b0_5_b0_58), (Ne.symm ne_na0_7_b0_58), (Ne.symm ne_ta0_7_b0_58)⟩)) ((fc0_273.keep K0_280 (fun q => nomatch q)).keep K0_282 (by simp only [List.mem_cons, List.not_mem_nil, or_false, not_or]; exact ⟨(Ne.symm ne_b0_5_b0_58), (Ne.symm ne_na0_7_b0_58), (Ne.symm ne_ta0_7_b0_58)⟩)) ((fc0_274.keep K0_280 (fun q => nomatch q)).keep K0_282 (by simp only [List.mem_cons, List.not_mem_nil, or_false, not_or]; exact ⟨(Ne.symm ne_b0_5_bc0_60), (Ne.symm ne_na0_7_bc0_60), (Ne.symm ne_ta0_7_bc0_60)⟩)) g_na0_7 g_ta0_7 (Ne.symm ne_na0_7_bc0_60) (Ne.symm ne_ta0_7_bc0_60)
  · refine own_fw (fun _ => ox_ifNo Xhd0_235.here hx (hb hby at_61) rfl ((if0 _ _).trans (feq hc0_1).1)) ?_
    refine own_fw (fun _ => ox_aload Xhd0_235.here hx (hb hby at_64) rfl rfl) ?_
    refine own_fw (fun _ => ox_iloadN Xhd0_235.here hx (hb hby at_66) rfl) ?_
    refine own_sc Xhd0_235 hx hZ hown (rm41 l Z a0 hw [] p1 cc fv ra T0_60.heap n0 (Nat.le_trans fc0_59 K0_60.1)  ⟨fc0_61, S_c, hcc, S_f, hfv, S_r⟩) (own_w hw 222 rfl) (own_w hw 223 rfl) (own_w hw 224 rfl) (own_w hw 80 rfl) (by decide) hml rfl rfl (hb hby at_67) rfl rfl (lenOf pd0_8 rfl) (W := 1) rfl (by decide) (by decide) (c' := 12) (s' := 98) rfl rfl (by decide) (by decide) ?_
    rintro _ T0_283 L0_283 X0_283 ⟨rs0_283, bs0_283, kb0_283, x0_0_283, x1_0_283, x2_0_283, x4_0_283, rfl, N0_283q, K0_283, E0_283, Sv0_283, Sc0_283, Vb0_283, d0_0_283, d1_0_283, d2_0_283, l4_0_283, zr0_283, zb0_283⟩
    have N0_283 := Fr.app Nhd0_235 N0_283q
    have fc0_284 := (((((fc0_21.wr W0_37).wr W0_41).ext E0_58).keep K0_60).keep K0_283)
    have fc0_285 := (((((fc0_28.wr W0_37).wr W0_41).ext E0_58).keep K0_60).keep K0_283)
    have fc0_286 := (((((fc0_29.wr W0_37).wr W0_41).ext E0_58).keep K0_60).keep K0_283)
    obtain ⟨Lhd0_287, Xhd0_287, Nhd0_287⟩ := own_hide X0_283 N0_283
    refine own_vc Xhd0_287 hx hZ hown (rmEN_L0 l Z a0 hw [] b0_1 rs0_283 na0_3 ta0_3 kn0_3 kt0_3 (0 : Int32) bs0_283 kb0_283 x0_0_283 x1_0_283 x2_0_283 x4_0_283 cc fv ra T0_283.heap n0 (Nat.le_trans (Nat.le_trans fc0_59 K0_60.1) K0_283.1) ⟨fc0_284, (fc0_62.keep K0_283 (fun q => nomatch q)), (fc0_63.keep K0_283 (fun q => nomatch q)), (fc0_64.keep K0_283 (fun q => nomatch q)), (fc0_65.keep K0_283 (fun q => nomatch q)), (fc0_66.keep K0_283 (fun q => nomatch q)), (fc0_67.keep K0_283 (fun q => nomatch q)), fc0_285, fc0_286, Ov0_3, nt0_3⟩ E0_283 Sv0_283 Sc0_283 Vb0_283 d0_0_283 d1_0_283 d2_0_283 l4_0_283 g_b0_1 g_na0_3 g_ta0_3 ⟨(fc0_61.keep K0_283 all0), S_c, hcc, S_f, hfv, S_r⟩) (own_w hw 82 rfl) (own_w hw 83 rfl) (own_w hw 85 rfl) (own_w hw 84 rfl) (own_w hw 86 rfl) (own_w hw 2 rfl) (by decide) hml rfl fc0_284 rfl (hb hby at_70) rfl rfl (lenOf pd0_5 rfl) (W := 0) rfl (by decide) (by decide) (c' := 15) (s' := 108) rfl rfl (by decide) (by decide) ?_
    rintro _ T0_288 L0_288 X0_288 ⟨rfl, N0_288q, K0_288, va0_288, vt0_288, ha0_288, Et_0_288, ⟨Ep0_288, Fn0_288, Ft0_288, Fs0_288, Fv0_288, Vn0_288, Vt0_288, En0_288, Et0_288, Ov0_288, nt0_288⟩⟩
    have N0_288 := Fr.app Nhd0_287 N0_288q
    have fc0_289 := ((fc0_61.keep K0_283 all0).keep K0_288 (allS g_b0_1 (allS g_na0_3 (allS g_ta0_3 all0))))
    have fc0_290 := ((fc0_68.keep K0_283 (fun q => nomatch q)).keep K0_288 (by simp only [List.mem_cons, List.not_mem_nil, or_false, not_or]; exact ⟨(Ne.symm ne_b0_1_b0_5), (Ne.symm ne_na0_3_b0_5), (Ne.symm ne_ta0_3_b0_5)⟩))
    have fc0_291 := ((fc0_69.keep K0_283 (fun q => nomatch q)).keep K0_288 (by simp only [List.mem_cons, List.not_mem_nil, or_false, not_or]; exact ⟨(Ne.symm ne_b0_1_b0_5), (Ne.symm ne_na0_3_b0_5), (Ne.symm ne_ta0_3_b0_5)⟩))
    have fc0_292 := ((fc0_70.keep K0_283 (fun q => nomatch q)).keep K0_288 (by simp only [List.mem_cons, List.not_mem_nil, or_false, not_or]; exact ⟨(Ne.symm ne_b0_1_b0_5), (Ne.symm ne_na0_3_b0_5), (Ne.symm ne_ta0_3_b0_5)⟩))
    have fc0_293 := ((fc0_71.keep K0_283 (fun q => nomatch q)).keep K0_288 (by simp only [List.mem_cons, List.not_mem_nil, or_false, not_or]; exact ⟨(Ne.symm ne_b0_1_b0_5), (Ne.symm ne_na0_3_b0_5), (Ne.symm ne_ta0_3_b0_5)⟩))
    have fc0_294 := ((fc0_72.keep K0_283 (fun q => nomatch q)).keep K0_288 (by simp only [List.mem_cons, List.not_mem_nil, or_false, not_or]; exact ⟨(Ne.symm ne_b0_1_na0_7), (Ne.symm ne_na0_3_na0_7), (Ne.symm ne_ta0_3_na0_7)⟩))
    have fc0_295 := ((fc0_73.keep K0_283 (fun q => nomatch q)).keep K0_288 (by simp only [List.mem_cons, List.not_mem_nil, or_false, not_or]; exact ⟨(Ne.symm ne_b0_1_ta0_7), (Ne.symm ne_na0_3_ta0_7), (Ne.symm ne_ta0_3_ta0_7)⟩))
    have fc0_297 := ((Sv0_60.keep K0_283 (fun q => nomatch q)).keep K0_288 (by simp only [List.mem_cons, List.not_mem_nil, or_false, not_or]; exact ⟨(Ne.symm ne_b0_1_b0_58), (Ne.symm ne_na0_3_b0_58), (Ne.symm ne_ta0_3_b0_58)⟩))
    have fc0_298 := ((Sc0_60.keep K0_283 (fun q => nomatch q)).keep K0_288 (by simp only [List.mem_cons, List.not_mem_nil, or_false, not_or]; exact ⟨(Ne.symm ne_b0_1_b0_58), (Ne.symm ne_na0_3_b0_58), (Ne.symm ne_ta0_3_b0_58)⟩))
    have fc0_299 := ((Vc0_60.keep K0_283 (fun q => nomatch q)).keep K0_288 (by simp only [List.mem_cons, List.not_mem_nil, or_false, not_or]; exact ⟨(Ne.symm ne_b0_1_bc0_60), (Ne.symm ne_na0_3_bc0_60), (Ne.symm ne_ta0_3_bc0_60)⟩))
    have fc0_303 := (Nat.le_trans (Nat.le_trans (Nat.le_trans fc0_59 K0_60.1) K0_283.1) K0_288.1)
    obtain ⟨Lhd0_304, Xhd0_304, Nhd0_304⟩ := own_hide X0_288 N0_288
    refine own_fw (fun _ => ox_pop Xhd0_304.here hx (hb hby at_73) rfl rfl) ?_
    refine own_fw (fun _ => ox_iloadN Xhd0_304.here hx (hb hby at_74) rfl) ?_
    refine own_fw (fun _ => ox_iconst Xhd0_304.here hx (hb hby at_75)) ?_
    refine own_fw (fun _ => ox_iand Xhd0_304.here hx (hb hby at_76) rfl) ?_
    by_cases hc0_5 : (p0 &&& (2 : Int32)) = (0 : Int32)
    · refine own_fw (fun _ => ox_ifYes Xhd0_304.here hx (pc0 := 77) (pc' := 90) rfl (hb hby at_77) rfl ((if0 _ _).trans (teq hc0_5).1) (by decide) (by decide)) ?_
      refine own_fw (fun _ => ox_iloadN Xhd0_304.here hx (hb hby at_90) rfl) ?_
      refine own_fw (fun _ => ox_iconst Xhd0_304.here hx (hb hby at_91)) ?_
      refine own_fw (fun _ => ox_iand Xhd0_304.here hx (hb hby at_92) rfl) ?_
      by_cases hc0_6 : (p0 &&& (4 : Int32)) = (0 : Int32)
      · refine own_fw (fun _ => ox_ifYes Xhd0_304.here hx (pc0 := 93) (pc' := 106) rfl (hb hby at_93) rfl ((if0 _ _).trans (teq hc0_6).1) (by decide) (by decide)) ?_
        exact tail0 T0_288 T0_288.heap _ (Xhd0_304.more (by decide) (by decide)) rfl Nhd0_304 fc0_303 fc0_289 na0_3 ta0_3 (1 : Int32) ((0 : Int32) + (1 : Int32)) Ep0_288 Fn0_288 Ft0_288 Fs0_288 Fv0_288 na0_7 ta0_7 kn0_7 kt0_7 (0 : Int32) ⟨((((fc0_48.ext E0_58).keep K0_60).keep K0_283).keep K0_288), fc0_290, fc0_291, fc0_292, fc0_293, fc0_294, fc0_295, ((((fc0_55.ext E0_58).keep K0_60).keep K0_283).keep K0_288), ((((fc0_56.ext E0_58).keep K0_60).keep K0_283).keep K0_288), Ov0_7, nt0_7⟩ ((E0_60.keep K0_283).keep K0_288) fc0_297 fc0_298 fc0_299 g_na0_7 g_ta0_7 (Ne.symm ne_na0_7_bc0_60) (Ne.symm ne_ta0_7_bc0_60)
      · refine own_fw (fun _ => ox_ifNo Xhd0_304.here hx (hb hby at_93) rfl ((if0 _ _).trans (feq hc0_6).1)) ?_
        refine own_fw (fun _ => ox_aload Xhd0_304.here hx (hb hby at_96) rfl rfl) ?_
        refine own_fw (fun _ => ox_iloadN Xhd0_304.here hx (hb hby at_98) rfl) ?_
        refine own_sc Xhd0_304 hx hZ hown (rm41 l Z a0 hw [] p3 cc fv ra T0_288.heap n0 fc0_303  ⟨fc0_289, S_c, hcc, S_f, hfv, S_r⟩) (own_w hw 222 rfl) (own_w hw 223 rfl) (own_w hw 224 rfl) (own_w hw 80 rfl) (by decide) hml rfl rfl (hb hby at_99) rfl rfl (lenOf pd0_8 rfl) (W := 1) rfl (by decide) (by decide) (c' := 18) (s' := 122) rfl rfl (by decide) (by decide) ?_
        rintro _ T0_305 L0_305 X0_305 ⟨rs0_305, bs0_305, kb0_305, x0_0_305, x1_0_305, x2_0_305, x4_0_305, rfl, N0_305q, K0_305, E0_305, Sv0_305, Sc0_305, Vb0_305, d0_0_305, d1_0_305, d2_0_305, l4_0_305, zr0_305, zb0_305⟩
        have N0_305 := Fr.app Nhd0_304 N0_305q
        have fc0_306 := (((((fc0_48.ext E0_58).keep K0_60).keep K0_283).keep K0_288).keep K0_305)
        have fc0_307 := (((((fc0_55.ext E0_58).keep K0_60).keep K0_283).keep K0_288).keep K0_305)
        have fc0_308 := (((((fc0_56.ext E0_58).keep K0_60).keep K0_283).keep K0_288).keep K0_305)
        obtain ⟨Lhd0_309, Xhd0_309, Nhd0_309⟩ := own_hide X0_305 N0_305
        refine own_vc Xhd0_309 hx hZ hown (rmEN_L0 l Z a0 hw [] b0_5 rs0_305 na0_7 ta0_7 kn0_7 kt0_7 (0 : Int32) bs0_305 kb0_305 x0_0_305 x1_0_305 x2_0_305 x4_0_305 cc fv ra T0_305.heap n0 (Nat.le_trans fc0_303 K0_305.1) ⟨fc0_306, (fc0_290.keep K0_305 (fun q => nomatch q)), (fc0_291.keep K0_305 (fun q => nomatch q)), (fc0_292.keep K0_305 (fun q => nomatch q)), (fc0_293.keep K0_305 (fun q => nomatch q)), (fc0_294.keep K0_305 (fun q => nomatch q)), (fc0_295.keep K0_305 (fun q => nomatch q)), fc0_307, fc0_308, Ov0_7, nt0_7⟩ E0_305 Sv0_305 Sc0_305 Vb0_305 d0_0_305 d1_0_305 d2_0_305 l4_0_305 g_b0_5 g_na0_7 g_ta0_7 ⟨(fc0_289.keep K0_305 all0), S_c, hcc, S_f, hfv, S_r⟩) (own_w hw 82 rfl) (own_w hw 83 rfl) (own_w hw 85 rfl) (own_w hw 84 rfl) (own_w hw 86 rfl) (own_w hw 2 rfl) (by decide) hml rfl fc0_306 rfl (hb hby at_102) rfl rfl (lenOf pd0_5 rfl) (W := 0) rfl (by decide) (by decide) (c' := 21) (s' := 132) rfl rfl (by decide) (by decide) ?_
        rintro _ T0_310 L0_310 X0_310 ⟨rfl, N0_310q, K0_310, va0_310, vt0_310, ha0_310, Et_0_310, ⟨Ep0_310, Fn0_310, Ft0_310, Fs0_310, Fv0_310, Vn0_310, Vt0_310, En0_310, Et0_310, Ov0_310, nt0_310⟩⟩
        have N0_310 := Fr.app Nhd0_309 N0_310q
        have fc0_311 := ((fc0_289.keep K0_305 all0).keep K0_310 (allS g_b0_5 (allS g_na0_7 (allS g_ta0_7 all0))))
        have fc0_313 := ((((E0_60.keep K0_283).keep K0_288).keep K0_305).keep K0_310)
        have fc0_314 := ((fc0_297.keep K0_305 (fun q => nomatch q)).keep K0_310 (by simp only [List.mem_cons, List.not_mem_nil, or_false, not_or]; exact ⟨(Ne.symm ne_b0_5_b0_58), (Ne.symm ne_na0_7_b0_58), (Ne.symm ne_ta0_7_b0_58)⟩))
        have fc0_315 := ((fc0_298.keep K0_305 (fun q => nomatch q)).keep K0_310 (by simp only [List.mem_cons, List.not_mem_nil, or_false, not_or]; exact ⟨(Ne.symm ne_b0_5_b0_58), (Ne.symm ne_na0_7_b0_58), (Ne.symm ne_ta0_7_b0_58)⟩))
        have fc0_316 := ((fc0_299.keep K0_305 (fun q => nomatch q)).keep K0_310 (by simp only [List.mem_cons, List.not_mem_nil, or_false, not_or]; exact ⟨(Ne.symm ne_b0_5_bc0_60), (Ne.symm ne_na0_7_bc0_60), (Ne.symm ne_ta0_7_bc0_60)⟩))
        have fc0_320 := ((Fn0_288.keep K0_305 (fun q => nomatch q)).keep K0_310 (by simp only [List.mem_cons, List.not_mem_nil, or_false, not_or]; exact ⟨ne_b0_1_b0_5, ne_b0_1_na0_7, ne_b0_1_ta0_7⟩))
        have fc0_321 := ((Ft0_288.keep K0_305 (fun q => nomatch q)).keep K0_310 (by simp only [List.mem_cons, List.not_mem_nil, or_false, not_or]; exact ⟨ne_b0_1_b0_5, ne_b0_1_na0_7, ne_b0_1_ta0_7⟩))
        have fc0_322 := ((Fs0_288.keep K0_305 (fun q => nomatch q)).keep K0_310 (by simp only [List.mem_cons, List.not_mem_nil, or_false, not_or]; exact ⟨ne_b0_1_b0_5, ne_b0_1_na0_7, ne_b0_1_ta0_7⟩))
        have fc0_323 := ((Fv0_288.keep K0_305 (fun q => nomatch q)).keep K0_310 (by simp only [List.mem_cons, List.not_mem_nil, or_false, not_or]; exact ⟨ne_b0_1_b0_5, ne_b0_1_na0_7, ne_b0_1_ta0_7⟩))
        obtain ⟨Lhd0_329, Xhd0_329, Nhd0_329⟩ := own_hide X0_310 N0_310
        refine own_fw (fun _ => ox_pop Xhd0_329.here hx (hb hby at_105) rfl rfl) ?_
        exact tail1 T0_310 T0_310.heap _ (Xhd0_329.more (by decide) (by decide)) rfl Nhd0_329 (Nat.le_trans (Nat.le_trans fc0_303 K0_305.1) K0_310.1) fc0_311 na0_3 ta0_3 (1 : Int32) ((0 : Int32) + (1 : Int32)) ((Ep0_288.keep K0_305).keep K0_310) fc0_320 fc0_321 fc0_322 fc0_323 na0_7 ta0_7 kn0_7 kt0_7 ((0 : Int32) + (1 : Int32)) va0_310 vt0_310 ⟨Ep0_310, Fn0_310, Ft0_310, Fs0_310, Fv0_310, Vn0_310, Vt0_310, En0_310, Et0_310, Ov0_310, nt0_310⟩ Et_0_310 ha0_310 fc0_313 fc0_314 fc0_315 fc0_316 g_na0_7 g_ta0_7 (Ne.symm ne_na0_7_bc0_60) (Ne.symm ne_ta0_7_bc0_60)
    · refine own_fw (fun _ => ox_ifNo Xhd0_304.here hx (hb hby at_77) rfl ((if0 _ _).trans (feq hc0_5).1)) ?_
      refine own_fw (fun _ => ox_aload Xhd0_304.here hx (hb hby at_80) rfl rfl) ?_
      refine own_fw (fun _ => ox_iloadN Xhd0_304.here hx (hb hby at_82) rfl) ?_
      refine own_sc Xhd0_304 hx hZ hown (rm41 l Z a0 hw [] p2 cc fv ra T0_288.heap n0 fc0_303  ⟨fc0_289, S_c, hcc, S_f, hfv, S_r⟩) (own_w hw 222 rfl) (own_w hw 223 rfl) (own_w hw 224 rfl) (own_w hw 80 rfl) (by decide) hml rfl rfl (hb hby at_83) rfl rfl (lenOf pd0_8 rfl) (W := 1) rfl (by decide) (by decide) (c' := 18) (s' := 122) rfl rfl (by decide) (by decide) ?_
      rintro _ T0_330 L0_330 X0_330 ⟨rs0_330, bs0_330, kb0_330, x0_0_330, x1_0_330, x2_0_330, x4_0_330, rfl, N0_330q, K0_330, E0_330, Sv0_330, Sc0_330, Vb0_330, d0_0_330, d1_0_330, d2_0_330, l4_0_330, zr0_330, zb0_330⟩
      have N0_330 := Fr.app Nhd0_304 N0_330q
      have fc0_331 := (((((fc0_48.ext E0_58).keep K0_60).keep K0_283).keep K0_288).keep K0_330)
      have fc0_332 := (((((fc0_55.ext E0_58).keep K0_60).keep K0_283).keep K0_288).keep K0_330)
      have fc0_333 := (((((fc0_56.ext E0_58).keep K0_60).keep K0_283).keep K0_288).keep K0_330)
      obtain ⟨Lhd0_334, Xhd0_334, Nhd0_334⟩ := own_hide X0_330 N0_330
      refine own_vc Xhd0_334 hx hZ hown (rmEN_L0 l Z a0 hw [] b0_5 rs0_330 na0_7 ta0_7 kn0_7 kt0_7 (0 : Int32) bs0_330 kb0_330 x0_0_330 x1_0_330 x2_0_330 x4_0_330 cc fv ra T0_330.heap n0 (Nat.le_trans fc0_303 K0_330.1) ⟨fc0_331, (fc0_290.keep K0_330 (fun q => nomatch q)), (fc0_291.keep K0_330 (fun q => nomatch q)), (fc0_292.keep K0_330 (fun q => nomatch q)), (fc0_293.keep K0_330 (fun q => nomatch q)), (fc0_294.keep K0_330 (fun q => nomatch q)), (fc0_295.keep K0_330 (fun q => nomatch q)), fc0_332, fc0_333, Ov0_7, nt0_7⟩ E0_330 Sv0_330 Sc0_330 Vb0_330 d0_0_330 d1_0_330 d2_0_330 l4_0_330 g_b0_5 g_na0_7 g_ta0_7 ⟨(fc0_289.keep K0_330 all0), S_c, hcc, S_f, hfv, S_r⟩) (own_w hw 82 rfl) (own_w hw 83 rfl) (own_w hw 85 rfl) (own_w hw 84 rfl) (own_w hw 86 rfl) (own_w hw 2 rfl) (by decide) hml rfl fc0_331 rfl (hb hby at_86) rfl rfl (lenOf pd0_5 rfl) (W := 0) rfl (by decide) (by decide) (c' := 21) (s' := 132) rfl rfl (by decide) (by decide) ?_
      rintro _ T0_335 L0_335 X0_335 ⟨rfl, N0_335q, K0_335, va0_335, vt0_335, ha0_335, Et_0_335, ⟨Ep0_335, Fn0_335, Ft0_335, Fs0_335, Fv0_335, Vn0_335, Vt0_335, En0_335, Et0_335, Ov0_335, nt0_335⟩⟩
      have N0_335 := Fr.app Nhd0_334 N0_335q
      have fc0_336 := ((fc0_289.keep K0_330 all0).keep K0_335 (allS g_b0_5 (allS g_na0_7 (allS g_ta0_7 all0))))
      have fc0_338 := ((((E0_60.keep K0_283).keep K0_288).keep K0_330).keep K0_335)
      have fc0_339 := ((fc0_297.keep K0_330 (fun q => nomatch q)).keep K0_335 (by simp only [List.mem_cons, List.not_mem_nil, or_false, not_or]; exact ⟨(Ne.symm ne_b0_5_b0_58), (Ne.symm ne_na0_7_b0_58), (Ne.symm ne_ta0_7_b0_58)⟩))
      have fc0_340 := ((fc0_298.keep K0_330 (fun q => nomatch q)).keep K0_335 (by simp only [List.mem_cons, List.not_mem_nil, or_false, not_or]; exact ⟨(Ne.symm ne_b0_5_b0_58), (Ne.symm ne_na0_7_b0_58), (Ne.symm ne_ta0_7_b0_58)⟩))
      have fc0_341 := ((fc0_299.keep K0_330 (fun q => nomatch q)).keep K0_335 (by simp only [List.mem_cons, List.not_mem_nil, or_false, not_or]; exact ⟨(Ne.symm ne_b0_5_bc0_60), (Ne.symm ne_na0_7_bc0_60), (Ne.symm ne_ta0_7_bc0_60)⟩))
      have fc0_345 := ((Fn0_288.keep K0_330 (fun q => nomatch q)).keep K0_335 (by simp only [List.mem_cons, List.not_mem_nil, or_false, not_or]; exact ⟨ne_b0_1_b0_5, ne_b0_1_na0_7, ne_b0_1_ta0_7⟩))
      have fc0_346 := ((Ft0_288.keep K0_330 (fun q => nomatch q)).keep K0_335 (by simp only [List.mem_cons, List.not_mem_nil, or_false, not_or]; exact ⟨ne_b0_1_b0_5, ne_b0_1_na0_7, ne_b0_1_ta0_7⟩))
      have fc0_347 := ((Fs0_288.keep K0_330 (fun q => nomatch q)).keep K0_335 (by simp only [List.mem_cons, List.not_mem_nil, or_false, not_or]; exact ⟨ne_b0_1_b0_5, ne_b0_1_na0_7, ne_b0_1_ta0_7⟩))
      have fc0_348 := ((Fv0_288.keep K0_330 (fun q => nomatch q)).keep K0_335 (by simp only [List.mem_cons, List.not_mem_nil, or_false, not_or]; exact ⟨ne_b0_1_b0_5, ne_b0_1_na0_7, ne_b0_1_ta0_7⟩))
      obtain ⟨Lhd0_354, Xhd0_354, Nhd0_354⟩ := own_hide X0_335 N0_335
      refine own_fw (fun _ => ox_pop Xhd0_354.here hx (hb hby at_89) rfl rfl) ?_
      refine own_fw (fun _ => ox_iloadN Xhd0_354.here hx (hb hby at_90) rfl) ?_
      refine own_fw (fun _ => ox_iconst Xhd0_354.here hx (hb hby at_91)) ?_
      refine own_fw (fun _ => ox_iand Xhd0_354.here hx (hb hby at_92) rfl) ?_
      by_cases hc0_7 : (p0 &&& (4 : Int32)) = (0 : Int32)
      · refine own_fw (fun _ => ox_ifYes Xhd0_354.here hx (pc0 := 93) (pc' := 106) rfl (hb hby at_93) rfl ((if0 _ _).trans (teq hc0_7).1) (by decide) (by decide)) ?_
        exact tail1 T0_335 T0_335.heap _ (Xhd0_354.more (by decide) (by decide)) rfl Nhd0_354 (Nat.le_trans (Nat.le_trans fc0_303 K0_330.1) K0_335.1) fc0_336 na0_3 ta0_3 (1 : Int32) ((0 : Int32) + (1 : Int32)) ((Ep0_288.keep K0_330).keep K0_335) fc0_345 fc0_346 fc0_347 fc0_348 na0_7 ta0_7 kn0_7 kt0_7 ((0 : Int32) + (1 : Int32)) va0_335 vt0_335 ⟨Ep0_335, Fn0_335, Ft0_335, Fs0_335, Fv0_335, Vn0_335, Vt0_335, En0_335, Et0_335, Ov0_335, nt0_335⟩ Et_0_335 ha0_335 fc0_338 fc0_339 fc0_340 fc0_341 g_na0_7 g_ta0_7 (Ne.symm ne_na0_7_bc0_60) (Ne.symm ne_ta0_7_bc0_60)
      · refine own_fw (fun _ => ox_ifNo Xhd0_354.here hx (hb hby at_93) rfl ((if0 _ _).trans (feq hc0_7).1)) ?_
        refine own_fw (fun _ => ox_aload Xhd0_354.here hx (hb hby at_96) rfl rfl) ?_
        refine own_fw (fun _ => ox_iloadN Xhd0_354.here hx (hb hby at_98) rfl) ?_
        refine own_sc Xhd0_354 hx hZ hown (rm41 l Z a0 hw [] p3 cc fv ra T0_335.heap n0 (Nat.le_trans (Nat.le_trans fc0_303 K0_330.1) K0_335.1)  ⟨fc0_336, S_c, hcc, S_f, hfv, S_r⟩) (own_w hw 222 rfl) (own_w hw 223 rfl) (own_w hw 224 rfl) (own_w hw 80 rfl) (by decide) hml rfl rfl (hb hby at_99) rfl rfl (lenOf pd0_8 rfl) (W := 1) rfl (by decide) (by decide) (c' := 24) (s' := 146) rfl rfl (by decide) (by decide) ?_
        rintro _ T0_355 L0_355 X0_355 ⟨rs0_355, bs0_355, kb0_355, x0_0_355, x1_0_355, x2_0_355, x4_0_355, rfl, N0_355q, K0_355, E0_355, Sv0_355, Sc0_355, Vb0_355, d0_0_355, d1_0_355, d2_0_355, l4_0_355, zr0_355, zb0_355⟩
        have N0_355 := Fr.app Nhd0_354 N0_355q
        have fc0_357 := (Nat.le_trans (Nat.le_trans (Nat.le_trans fc0_303 K0_330.1) K0_335.1) K0_355.1)
        obtain ⟨Lhd0_358, Xhd0_358, Nhd0_358⟩ := own_hide X0_355 N0_355
        refine own_vc Xhd0_358 hx hZ hown (rmEN_L1 l Z a0 hw [] b0_5 rs0_355 na0_7 ta0_7 kn0_7 kt0_7 ((0 : Int32) + (1 : Int32)) va0_335 vt0_335 bs0_355 kb0_355 x0_0_355 x1_0_355 x2_0_355 x4_0_355 cc fv ra T0_355.heap n0 fc0_357 ⟨(Ep0_335.keep K0_355), (Fn0_335.keep K0_355 (fun q => nomatch q)), (Ft0_335.keep K0_355 (fun q => nomatch q)), (Fs0_335.keep K0_355 (fun q => nomatch q)), (Fv0_335.keep K0_355 (fun q => nomatch q)), (Vn0_335.keep K0_355 (fun q => nomatch q)), (Vt0_335.keep K0_355 (fun q => nomatch q)), (En0_335.keep K0_355), (Et0_335.keep K0_355), Ov0_335, nt0_335⟩ E0_355 Sv0_355 Sc0_355 Vb0_355 d0_0_355 d1_0_355 d2_0_355 l4_0_355 g_b0_5 g_na0_7 g_ta0_7 (Et_0_335.keep K0_355) ha0_335 ⟨(fc0_336.keep K0_355 all0), S_c, hcc, S_f, hfv, S_r⟩) (own_w hw 82 rfl) (own_w hw 83 rfl) (own_w hw 85 rfl) (own_w hw 84 rfl) (own_w hw 86 rfl) (own_w hw 2 rfl) (by decide) hml rfl (Ep0_335.keep K0_355) rfl (hb hby at_102) rfl rfl (lenOf pd0_5 rfl) (W := 0) rfl (by decide) (by decide) (c' := 27) (s' := 156) rfl rfl (by decide) (by decide) ?_
        rintro _ T0_359 L0_359 X0_359 ⟨rfl, N0_359q, K0_359, R0_359⟩
        have N0_359 := Fr.app Nhd0_358 N0_359q
        rcases R0_359 with ⟨va0_359, vt0_359, ha0_359, Et_0_359, ⟨Ep0_359, Fn0_359, Ft0_359, Fs0_359, Fv0_359, Vn0_359, Vt0_359, En0_359, Et0_359, Ov0_359, nt0_359⟩⟩ | ⟨va0_359, vb0_359, vt0_359, vu0_359, ha0_359, hb0_359, Et_0_359, Eu_0_359, ⟨Ep0_359, Fn0_359, Ft0_359, Fs0_359, Fv0_359, Vn0_359, Vt0_359, En0_359, Et0_359, Ov0_359, nt0_359⟩⟩
        · have npn0_359 : b0_5 ≠ na0_7 := Exa.neArv Ep0_359 Vn0_359 (own_w hw 1 rfl)
          have npt0_359 : b0_5 ≠ ta0_7 := Exa.neArv Ep0_359 Vt0_359 (own_w hw 1 rfl)
          refine own_fw (fun _ => ox_pop X0_359.here hx (hb hby at_105) rfl rfl) ?_
          exact tail1 T0_359 T0_359.heap _ (X0_359.more (by decide) (by decide)) rfl N0_359 (Nat.le_trans fc0_357 K0_359.1) ((fc0_336.keep K0_355 all0).keep K0_359 (allS g_b0_5 (allS g_na0_7 (allS g_ta0_7 all0)))) na0_3 ta0_3 (1 : Int32) ((0 : Int32) + (1 : Int32)) ((((Ep0_288.keep K0_330).keep K0_335).keep K0_355).keep K0_359) ((fc0_345.keep K0_355 (fun q => nomatch q)).keep K0_359 (by simp only [List.mem_cons, List.not_mem_nil, or_false, not_or]; exact ⟨ne_b0_1_b0_5, ne_b0_1_na0_7, ne_b0_1_ta0_7⟩)) ((fc0_346.keep K0_355 (fun q => nomatch q)).keep K0_359 (by simp only [List.mem_cons, List.not_mem_nil, or_false, not_or]; exact ⟨ne_b0_1_b0_5, ne_b0_1_na0_7, ne_b0_1_ta0_7⟩)) ((fc0_347.keep K0_355 (fun q => nomatch q)).keep K0_359 (by simp only [List.mem_cons, List.not_mem_nil, or_false, not_or]; exact ⟨ne_b0_1_b0_5, ne_b0_1_na0_7, ne_b0_1_ta0_7⟩)) ((fc0_348.keep K0_355 (fun q => nomatch q)).keep K0_359 (by simp only [List.mem_cons, List.not_mem_nil, or_false, not_or]; exact ⟨ne_b0_1_b0_5, ne_b0_1_na0_7, ne_b0_1_ta0_7⟩)) na0_7 ta0_7 kn0_7 kt0_7 (((0 : Int32) + (1 : Int32)) + (1 : Int32)) va0_359 vt0_359 ⟨Ep0_359, Fn0_359, Ft0_359, Fs0_359, Fv0_359, Vn0_359, Vt0_359, En0_359, Et0_359, Ov0_359, nt0_359⟩ Et_0_359 ha0_359 ((fc0_338.keep K0_355).keep K0_359) ((fc0_339.keep K0_355 (fun q => nomatch q)).keep K0_359 (by simp only [List.mem_cons, List.not_mem_nil, or_false, not_or]; exact ⟨(Ne.symm ne_b0_5_b0_58), (Ne.symm ne_na0_7_b0_58), (Ne.symm ne_ta0_7_b0_58)⟩)) ((fc0_340.keep K0_355 (fun q => nomatch q)).keep K0_359 (by simp only [List.mem_cons, List.not_mem_nil, or_false, not_or]; exact ⟨(Ne.symm ne_b0_5_b0_58), (Ne.symm ne_na0_7_b0_58), (Ne.symm ne_ta0_7_b0_58)⟩)) ((fc0_341.keep K0_355 (fun q => nomatch q)).keep K0_359 (by simp only [List.mem_cons, List.not_mem_nil, or_false, not_or]; exact ⟨(Ne.symm ne_b0_5_bc0_60), (Ne.symm ne_na0_7_bc0_60), (Ne.symm ne_ta0_7_bc0_60)⟩)) g_na0_7 g_ta0_7 (Ne.symm ne_na0_7_bc0_60) (Ne.symm ne_ta0_7_bc0_60)
        · have npn0_359 : b0_5 ≠ na0_7 := Exa.neArv Ep0_359 Vn0_359 (own_w hw 1 rfl)
          have npt0_359 : b0_5 ≠ ta0_7 := Exa.neArv Ep0_359 Vt0_359 (own_w hw 1 rfl)
          refine own_fw (fun _ => ox_pop X0_359.here hx (hb hby at_105) rfl rfl) ?_
          exact tail2 T0_359 T0_359.heap _ (X0_359.more (by decide) (by decide)) rfl N0_359 (Nat.le_trans fc0_357 K0_359.1) ((fc0_336.keep K0_355 all0).keep K0_359 (allS g_b0_5 (allS g_na0_7 (allS g_ta0_7 all0)))) na0_3 ta0_3 (1 : Int32) ((0 : Int32) + (1 : Int32)) ((((Ep0_288.keep K0_330).keep K0_335).keep K0_355).keep K0_359) ((fc0_345.keep K0_355 (fun q => nomatch q)).keep K0_359 (by simp only [List.mem_cons, List.not_mem_nil, or_false, not_or]; exact ⟨ne_b0_1_b0_5, ne_b0_1_na0_7, ne_b0_1_ta0_7⟩)) ((fc0_346.keep K0_355 (fun q => nomatch q)).keep K0_359 (by simp only [List.mem_cons, List.not_mem_nil, or_false, not_or]; exact ⟨ne_b0_1_b0_5, ne_b0_1_na0_7, ne_b0_1_ta0_7⟩)) ((fc0_347.keep K0_355 (fun q => nomatch q)).keep K0_359 (by simp only [List.mem_cons, List.not_mem_nil, or_false, not_or]; exact ⟨ne_b0_1_b0_5, ne_b0_1_na0_7, ne_b0_1_ta0_7⟩)) ((fc0_348.keep K0_355 (fun q => nomatch q)).keep K0_359 (by simp only [List.mem_cons, List.not_mem_nil, or_false, not_or]; exact ⟨ne_b0_1_b0_5, ne_b0_1_na0_7, ne_b0_1_ta0_7⟩)) na0_7 ta0_7 kn0_7 kt0_7 (((0 : Int32) + (1 : Int32)) + (1 : Int32)) va0_359 vb0_359 vt0_359 vu0_359 ⟨Ep0_359, Fn0_359, Ft0_359, Fs0_359, Fv0_359, Vn0_359, Vt0_359, En0_359, Et0_359, Ov0_359, nt0_359⟩ Et_0_359 Eu_0_359 ha0_359 hb0_359 ((fc0_338.keep K0_355).keep K0_359) ((fc0_339.keep K0_355 (fun q => nomatch q)).keep K0_359 (by simp only [List.mem_cons, List.not_mem_nil, or_false, not_or]; exact ⟨(Ne.symm ne_b0_5_b0_58), (Ne.symm ne_na0_7_b0_58), (Ne.symm ne_ta0_7_b0_58)⟩)) ((fc0_340.keep K0_355 (fun q => nomatch q)).keep K0_359 (by simp only [List.mem_cons, List.not_mem_nil, or_false, not_or]; exact ⟨(Ne.symm ne_b0_5_b0_58), (Ne.symm ne_na0_7_b0_58), (Ne.symm ne_ta0_7_b0_58)⟩)) ((fc0_341.keep K0_355 (fun q => nomatch q)).keep K0_359 (by simp only [List.mem_cons, List.not_mem_nil, or_false, not_or]; exact ⟨(Ne.symm ne_b0_5_bc0_60), (Ne.symm ne_na0_7_bc0_60), (Ne.symm ne_ta0_7_bc0_60)⟩)) g_na0_7 g_ta0_7 (Ne.symm ne_na0_7_bc0_60) (Ne.symm ne_ta0_7_bc0_60)
theorem comes_1 {Post : Tables → Env → Array Value → State → Outcome → State → Prop} (hpost : ∀ tb e args s v u, (limb_1_1.after args s (.returned v) u = true ∧ limb_1_2.after args s (.returned v) u = true ∧ True) → FrameEnd s (.returned v) u (Jvm.fieldLocs frame_1_writes args s ++ Jvm.arrayLocs frame_1_arrays args s ++ Jvm.staticLocs frame_1_statics s) 72 512 → Post tb e args s (.returned v) u) :
    ArmFor flags0 classFile x code maxLocals ret World_1 tables_1 room_1 Calls_1 rest_1 Pre_1 Post := by
  intro l hfl _ _ p e ha hc hk s m args below hf hA hF happ hP
  obtain ⟨hcalls, hrest, hpre⟩ := hP
  obtain ⟨-, -, -, hnamed, -, -, -, hat⟩ := (Spec.applies_iff hf).mp happ
  obtain ⟨hg, hn⟩ := and_e (Cond.before_iff.mp (show (Jvm.Cond.and given_1 narrow_1).before args s = true from hpre))
  obtain ⟨g1, g2⟩ := and_e hg
  obtain ⟨ga0, gb0⟩ := and_e g2
  obtain ⟨ga1, gb1⟩ := and_e gb0
  obtain ⟨ga2, gb2⟩ := and_e gb1
  obtain ⟨w0, w1, w2, w3, rfl⟩ : ∃ w0 w1 w2 w3 : Value, args = #[w0, w1, w2, w3] := by
    have hs : args.size = 4 := by simpa [Cond.value, given_1] using g1
    obtain ⟨L⟩ := args
    match L, hs with
    | [w0, w1, w2, w3], _ => exact ⟨w0, w1, w2, w3, rfl⟩
  have hw := fun d (hd : d ∈ tables_1) => atoms_spec (ws := Jvm.Cond.code x code maxLocals ret :: tables_1) hat d (List.mem_cons_of_mem _ hd)
  have hfit : Fit s := fun {y c} hc i hi => by
    obtain ⟨ha, rfl⟩ := Array.getElem?_eq_some_iff.mp hc
    have q := List.all_eq_true.mp ((Array.all_eq_true_iff_forall_mem.mp hF) _ (Array.getElem_mem ha)) i (List.mem_range.mpr hi)
    simpa [Array.getElem?_eq_getElem hi] using q
  obtain ⟨i0, ei0⟩ := is_v ga0
  obtain rfl : w0 = (.int i0) := Option.some.inj ei0
  obtain ⟨i1, ei1⟩ := is_v ga1
  obtain rfl : w1 = (.int i1) := Option.some.inj ei1
  obtain ⟨i2, ei2⟩ := is_v ga2
  obtain rfl : w2 = (.int i2) := Option.some.inj ei2
  obtain ⟨i3, ei3⟩ := is_v gb2
  obtain rfl : w3 = (.int i3) := Option.some.inj ei3
  obtain ⟨hsets, hown0⟩ := atoms_of _ (rest_1_c_eq ▸ (show rest_1_c.before _ s = true from hrest))
  obtain ⟨cc, ev1⟩ := is_v (Cond.before_iff.mp (hsets _ (List.mem_of_getElem? (i := 1) rfl)))
  have S_c := Sta.start ev1 (Or.inl (hsets _ (List.mem_of_getElem? (i := 0) rfl)))
  have hcc : ¬ cc = (0 : Int32) := fun q => by
    have h1 := not_v (Cond.before_iff.mp (hsets _ (List.mem_of_getElem? (i := 2) rfl)))
    have h2 := eq_i ev1 (Term.int_eval (0)) (by rw [q])
    rw [h2] at h1
    cases h1
  obtain ⟨fv, ev2, hfv⟩ := isR_v (Cond.before_iff.mp (hsets _ (List.mem_of_getElem? (i := 8) rfl)))
  have S_f := Sta.start ev2 (Or.inl (hsets _ (List.mem_of_getElem? (i := 7) rfl)))
  obtain ⟨ra, ev3⟩ := exa_v (t := Term.static "com/example/copperline/copperline/Lexer$Reading" "AS_WRITTEN" "Lcom/example/copperline/copperline/Lexer$Reading;") (C := "com/example/copperline/copperline/Lexer$Reading") hn
  have S_r := Sta.start ev3 (Or.inr ⟨(own_w hw 91 rfl), (own_w hw 92 rfl)⟩)
  obtain ⟨n, o, h1, h2, h3, _, L, rfl, ⟨rfl, N⟩, hq⟩ := rm0 l s _ hw tables_1 i0 i1 i2 i3 cc fv ra s.heap s.heap.size (Nat.le_refl _) ⟨Old.start s, S_c, hcc, S_f, hfv, S_r⟩ p e ha hc hk s m _ below hf ((Spec.applies_iff_loose hf).mp happ).1 ⟨rfl, State.Warmed39.refl s, rfl⟩ trivial
  refine ⟨n, _, h1, h2, h3, hpost _ _ _ _ _ _ ⟨Cond.after_iff.mpr rfl, Cond.after_iff.mpr (eq_i res_at (Term.int_eval (1)) rfl), trivial⟩ ⟨hq.1, hq.2.1, (hq.2.2.sift fun y hy => Or.inr (N y hy)).mono (by decide) (by decide)⟩⟩
theorem main_1_1 : Claimed_1_1 := comes_1 fun _ _ _ _ _ _ h hF => ⟨h.1, hF⟩
theorem main_1_2 : Claimed_1_2 := comes_1 fun _ _ _ _ _ _ h hF => ⟨h.2.1, hF⟩
end Jvm.Pilot.@@N@@
namespace Jvm.Pilot.@@N@@
open Jvm Jvm.ClassFile Sem Op Lib Jvm.Free Jvm.Stand Jvm.Pilot.@@N@@.Jvm.D
/-! MADE BY PROGRAM (witnessworld.py) out of the Statement's table words and the real class files: 27 classes; the members and pool entries that the words name. The judged class is class 1, her method 4. -/
namespace start1
open Jvm.ClassFile
def u (s : String) : CpInfo := .utf8 (stringToUtf16 s)
/-- a pool by its gaps: so many unusable entries, then the entry; so many at the end -/
def gap : Nat → List CpInfo → List CpInfo
  | 0, r => r
  | n + 1, r => .unusable :: gap n r
def poolList (es : List (Nat × CpInfo)) (last : Nat) : List CpInfo := es.foldr (fun e r => gap e.1 (e.2 :: r)) (gap last [])
def pool (es : List (Nat × CpInfo)) (last : Nat) : Array CpInfo := ⟨poolList es last⟩
def fileOf (pool : Array CpInfo) (this : Nat) (attrs : Array Attribute := #[]) (ms : Array MethodInfo := #[]) (fl : Nat := 33) (sup : Nat := 0) (ifs : Array Nat := #[]) (fds : Array FieldInfo := #[]) : ClassFile where
  minorVersion := 0
  majorVersion := 65
  constantPool := pool
  accessFlags := fl
  thisClass := this
  superClass := sup
  interfaces := ifs
  fields := fds
  methods := ms
  attributes := attrs
def plain (name : String) (sup : Option ClassId) : Class where
  name := name
  kind := .ordinary
  loader := none
  accessFlags := 33
  super := sup
  interfaces := #[]
  cf := none
  fields := #[]
  methods := #[]
  instanceTypes := #[]
  staticTypes := #[]
  resolved := #[]
  callSites := []
  init := .initialized
  statics := none
  mirror := none

def pool0 : Array CpInfo := pool [(5, u "<init>"), (0, u "()V"), (1, .class_ 10), (1, u "java/lang/Object"), (85, u "clone"), (0, u "()Ljava/lang/Object;")] 26

def k0c0 : Code := { maxStack := 0, maxLocals := 1, code := object_method_1_code, exceptionTable := #[], attributes := #[] }
def k0m0 : Method := { name := "<init>", desc := "()V", sig := { parameters := [], returnType := none }, accessFlags := 1, code := some k0c0 }
def k0m1 : Method := { name := "clone", desc := "()Ljava/lang/Object;", sig := { parameters := [], returnType := some (.object "java/lang/Object") }, accessFlags := 260, code := none }
/-- java/lang/Object -/
def k0 : Class := { plain "java/lang/Object" none with
  accessFlags := 33
  interfaces := #[]
  cf := some (fileOf pool0 8 #[] #[{ accessFlags := 1, nameIndex := 5, descriptorIndex := 6, attributes := #[] }, { accessFlags := 260, nameIndex := 96, descriptorIndex := 97, attributes := #[] }] 33 0 #[] #[])
  fields := #[]
  methods := #[k0m0, k0m1]
  instanceTypes := #[]
  staticTypes := #[]
  resolved := Array.replicate 124 none
  statics := none }

def pool1 : Array CpInfo := pool [(2, .class_ 4), (0, .nameAndType 5 6), (0, u "java/lang/Object"), (0, u "<init>"), (0, u "()V"), (0, .class_ 8), (0, u "java/lang/String"), (0, .methodref 7 10), (0, .nameAndType 5 11), (0, u "([C)V"), (0, .methodref 13 14), (0, .class_ 15), (0, .nameAndType 16 17), (0, u "com/example/copperline/copperline/Program"), (0, u "number"), (0, u "(I)I"), (0, .methodref 13 19), (0, .nameAndType 20 21), (0, u "text"), (0, u "(I)Ljava/lang/String;"), (0, .methodref 7 23), (0, .nameAndType 24 25), (0, u "equals"), (0, u "(Ljava/lang/Object;)Z"), (0, .methodref 13 3), (0, .methodref 28 29), (0, .class_ 30), (0, .nameAndType 31 21), (0, u "com/example/copperline/copperline/ProgramReplaceWithPinLaw"), (0, u "line"), (0, .methodref 13 33), (0, .nameAndType 34 35), (0, u "enter"), (0, u "(Ljava/lang/String;)Z"), (0, .methodref 13 37), (0, .nameAndType 38 39), (0, u "version"), (0, u "()I"), (0, .methodref 13 41), (0, .nameAndType 42 39), (0, u "size"), (0, .methodref 13 44), (0, .nameAndType 45 46), (0, u "replaceWith"), (0, u "(Lcom/example/copperline/copperline/Program;)V"), (0, .methodref 28 48), (0, .nameAndType 49 50), (0, u "same"), (0, u "(Lcom/example/copperline/copperline/Program;Lcom/example/copperline/copperline/Program;II)Z"), (0, .methodref 28 52), (0, .nameAndType 53 54), (0, u "kept"), (0, u "(Lcom/example/copperline/copperline/Program;IIILjava/lang/String;)Z"), (3, u "law"), (0, u "(IIII)Z")] 4

def k1m0 : Method := { name := "<init>", desc := "()V", sig := { parameters := [], returnType := none }, accessFlags := 2, code := none }
def k1c1 : Code := { maxStack := 5, maxLocals := 3, code := method_2_code, exceptionTable := #[], attributes := #[] }
def k1m1 : Method := { name := "line", desc := "(I)Ljava/lang/String;", sig := { parameters := [.int], returnType := some (.object "java/lang/String") }, accessFlags := 10, code := some k1c1 }
def k1c2 : Code := { maxStack := 3, maxLocals := 4, code := method_3_code, exceptionTable := #[], attributes := #[] }
def k1m2 : Method := { name := "same", desc := "(Lcom/example/copperline/copperline/Program;Lcom/example/copperline/copperline/Program;II)Z", sig := { parameters := [(.object "com/example/copperline/copperline/Program"), (.object "com/example/copperline/copperline/Program"), .int, .int], returnType := some .boolean }, accessFlags := 10, code := some k1c2 }
def k1c3 : Code := { maxStack := 2, maxLocals := 5, code := method_4_code, exceptionTable := #[], attributes := #[] }
def k1m3 : Method := { name := "kept", desc := "(Lcom/example/copperline/copperline/Program;IIILjava/lang/String;)Z", sig := { parameters := [(.object "com/example/copperline/copperline/Program"), .int, .int, .int, (.object "java/lang/String")], returnType := some .boolean }, accessFlags := 10, code := some k1c3 }
def k1c4 : Code := { maxStack := 5, maxLocals := 16, code := code, exceptionTable := #[], attributes := #[] }
def k1m4 : Method := { name := "law", desc := "(IIII)Z", sig := { parameters := [.int, .int, .int, .int], returnType := some .boolean }, accessFlags := 9, code := some k1c4 }
/-- com/example/copperline/copperline/ProgramReplaceWithPinLaw -/
def k1 : Class := { plain "com/example/copperline/copperline/ProgramReplaceWithPinLaw" (some 0) with
  accessFlags := 49
  interfaces := #[]
  cf := some (fileOf pool1 28 #[] #[{ accessFlags := 2, nameIndex := 5, descriptorIndex := 6, attributes := #[] }, { accessFlags := 10, nameIndex := 31, descriptorIndex := 21, attributes := #[] }, { accessFlags := 10, nameIndex := 49, descriptorIndex := 50, attributes := #[] }, { accessFlags := 10, nameIndex := 53, descriptorIndex := 54, attributes := #[] }, { accessFlags := 9, nameIndex := 58, descriptorIndex := 59, attributes := #[] }] 49 2 #[] #[])
  fields := #[]
  methods := #[k1m0, k1m1, k1m2, k1m3, k1m4]
  instanceTypes := #[]
  staticTypes := #[]
  resolved := Array.replicate 64 none
  statics := none }

def pool2 : Array CpInfo := pool [(1, .methodref 2 3), (0, .class_ 4), (0, .nameAndType 5 6), (0, u "java/lang/Object"), (0, u "<init>"), (0, u "()V"), (0, .fieldref 8 9), (0, .class_ 10), (0, .nameAndType 11 12), (0, u "com/example/copperline/copperline/Program"), (0, u "numbers"), (0, u "[I"), (0, .class_ 14), (0, u "java/lang/String"), (0, .fieldref 8 16), (0, .nameAndType 17 18), (0, u "texts"), (0, u "[Ljava/lang/String;"), (24, .methodref 44 45), (0, .class_ 46), (0, .nameAndType 47 48), (0, u "java/lang/System"), (0, u "arraycopy"), (0, u "(Ljava/lang/Object;ILjava/lang/Object;II)V"), (13, .fieldref 8 63), (0, .nameAndType 64 65), (0, u "size"), (0, u "I"), (0, .fieldref 8 67), (0, .nameAndType 68 65), (0, u "version"), (3, .methodref 8 73), (0, .nameAndType 74 75), (0, u "placeOf"), (0, u "(I)I"), (16, .class_ 93), (0, u "com/example/copperline/copperline/Lexer"), (0, .fieldref 95 96), (0, .class_ 97), (0, .nameAndType 98 99), (0, u "com/example/copperline/copperline/Lexer$Reading"), (0, u "AS_WRITTEN"), (0, u "Lcom/example/copperline/copperline/Lexer$Reading;"), (0, .methodref 92 101), (0, .nameAndType 5 102), (0, u "(Ljava/lang/String;ILcom/example/copperline/copperline/Lexer$Reading;)V"), (3, u "()I"), (2, u "enter"), (0, u "(Ljava/lang/String;)Z"), (3, .methodref 92 115), (0, .nameAndType 116 106), (0, u "lineNumber"), (0, .methodref 92 118), (0, .nameAndType 119 120), (0, u "rest"), (0, u "()Ljava/lang/String;"), (0, .methodref 8 122), (0, .nameAndType 123 124), (0, u "store"), (0, u "(ILjava/lang/String;)V"), (0, .methodref 126 127), (0, .class_ 12), (0, .nameAndType 128 129), (0, u "clone"), (0, u "()Ljava/lang/Object;"), (0, .methodref 131 127), (0, .class_ 18), (0, .methodref 13 133), (0, .nameAndType 134 135), (0, u "isEmpty"), (0, u "()Z"), (1, .class_ 139), (1, u "java/util/Arrays"), (5, .methodref 137 146), (0, .nameAndType 147 148), (0, u "binarySearch"), (0, u "([IIII)I"), (0, u "MAX_LINE_NUMBER"), (2, u "DIRECT_LINE"), (10, u "number"), (0, u "text"), (0, u "(I)Ljava/lang/String;"), (4, u "replaceWith"), (0, u "(Lcom/example/copperline/copperline/Program;)V")] 18

def k2c0 : Code := { maxStack := 2, maxLocals := 1, code := prog_49_method_1_code, exceptionTable := #[], attributes := #[] }
def k2m0 : Method := { name := "<init>", desc := "()V", sig := { parameters := [], returnType := none }, accessFlags := 0, code := some k2c0 }
def k2c1 : Code := { maxStack := 1, maxLocals := 1, code := prog_49_method_4_code, exceptionTable := #[], attributes := #[] }
def k2m1 : Method := { name := "size", desc := "()I", sig := { parameters := [], returnType := some .int }, accessFlags := 0, code := some k2c1 }
def k2c2 : Code := { maxStack := 2, maxLocals := 2, code := prog_49_method_5_code, exceptionTable := #[], attributes := #[] }
def k2m2 : Method := { name := "number", desc := "(I)I", sig := { parameters := [.int], returnType := some .int }, accessFlags := 0, code := some k2c2 }
def k2c3 : Code := { maxStack := 2, maxLocals := 2, code := prog_49_method_6_code, exceptionTable := #[], attributes := #[] }
def k2m3 : Method := { name := "text", desc := "(I)Ljava/lang/String;", sig := { parameters := [.int], returnType := some (.object "java/lang/String") }, accessFlags := 0, code := some k2c3 }
def k2c4 : Code := { maxStack := 1, maxLocals := 1, code := prog_49_method_7_code, exceptionTable := #[], attributes := #[] }
def k2m4 : Method := { name := "version", desc := "()I", sig := { parameters := [], returnType := some .int }, accessFlags := 0, code := some k2c4 }
def k2c5 : Code := { maxStack := 5, maxLocals := 4, code := prog_49_method_10_code, exceptionTable := #[], attributes := #[] }
def k2m5 : Method := { name := "enter", desc := "(Ljava/lang/String;)Z", sig := { parameters := [(.object "java/lang/String")], returnType := some .boolean }, accessFlags := 0, code := some k2c5 }
def k2c6 : Code := { maxStack := 3, maxLocals := 2, code := prog_49_method_11_code, exceptionTable := #[], attributes := #[] }
def k2m6 : Method := { name := "replaceWith", desc := "(Lcom/example/copperline/copperline/Program;)V", sig := { parameters := [(.object "com/example/copperline/copperline/Program")], returnType := none }, accessFlags := 0, code := some k2c6 }
def k2c7 : Code := { maxStack := 6, maxLocals := 5, code := prog_49_method_12_code, exceptionTable := #[], attributes := #[] }
def k2m7 : Method := { name := "store", desc := "(ILjava/lang/String;)V", sig := { parameters := [.int, (.object "java/lang/String")], returnType := none }, accessFlags := 2, code := some k2c7 }
def k2c8 : Code := { maxStack := 4, maxLocals := 4, code := prog_49_method_13_code, exceptionTable := #[], attributes := #[] }
def k2m8 : Method := { name := "placeOf", desc := "(I)I", sig := { parameters := [.int], returnType := some .int }, accessFlags := 2, code := some k2c8 }
/-- com/example/copperline/copperline/Program -/
def k2 : Class := { plain "com/example/copperline/copperline/Program" (some 0) with
  accessFlags := 48
  interfaces := #[]
  cf := some (fileOf pool2 8 #[] #[{ accessFlags := 0, nameIndex := 5, descriptorIndex := 6, attributes := #[] }, { accessFlags := 0, nameIndex := 64, descriptorIndex := 106, attributes := #[] }, { accessFlags := 0, nameIndex := 163, descriptorIndex := 75, attributes := #[] }, { accessFlags := 0, nameIndex := 164, descriptorIndex := 165, attributes := #[] }, { accessFlags := 0, nameIndex := 68, descriptorIndex := 106, attributes := #[] }, { accessFlags := 0, nameIndex := 109, descriptorIndex := 110, attributes := #[] }, { accessFlags := 0, nameIndex := 170, descriptorIndex := 171, attributes := #[] }, { accessFlags := 2, nameIndex := 123, descriptorIndex := 124, attributes := #[] }, { accessFlags := 2, nameIndex := 74, descriptorIndex := 75, attributes := #[] }] 48 2 #[] #[{ accessFlags := 24, nameIndex := 149, descriptorIndex := 65, attributes := #[] }, { accessFlags := 24, nameIndex := 152, descriptorIndex := 65, attributes := #[] }, { accessFlags := 2, nameIndex := 11, descriptorIndex := 12, attributes := #[] }, { accessFlags := 2, nameIndex := 17, descriptorIndex := 18, attributes := #[] }, { accessFlags := 2, nameIndex := 64, descriptorIndex := 65, attributes := #[] }, { accessFlags := 2, nameIndex := 68, descriptorIndex := 65, attributes := #[] }])
  fields := #[{ name := "MAX_LINE_NUMBER", type := .int, accessFlags := 24, slot := 0, constantValue := 0 }, { name := "DIRECT_LINE", type := .int, accessFlags := 24, slot := 1, constantValue := 0 }, { name := "numbers", type := (.array .int), accessFlags := 2, slot := 0, constantValue := 0 }, { name := "texts", type := (.array (.object "java/lang/String")), accessFlags := 2, slot := 1, constantValue := 0 }, { name := "size", type := .int, accessFlags := 2, slot := 2, constantValue := 0 }, { name := "version", type := .int, accessFlags := 2, slot := 3, constantValue := 0 }]
  methods := #[k2m0, k2m1, k2m2, k2m3, k2m4, k2m5, k2m6, k2m7, k2m8]
  instanceTypes := #[(.array .int), (.array (.object "java/lang/String")), .int, .int]
  staticTypes := #[.int, .int]
  resolved := Array.replicate 190 none
  statics := none }

def pool3 : Array CpInfo := pool [(1, .class_ 2), (0, u "java/io/Serializable"), (0, .class_ 4), (0, u "java/lang/Object")] 2

/-- java/io/Serializable -/
def k3 : Class := { plain "java/io/Serializable" (some 0) with
  accessFlags := 1537
  interfaces := #[]
  cf := some (fileOf pool3 1 #[] #[] 1537 3 #[] #[])
  fields := #[]
  methods := #[]
  instanceTypes := #[]
  staticTypes := #[]
  resolved := Array.replicate 7 none
  statics := none }

def pool4 : Array CpInfo := pool [(1, .class_ 2), (0, u "java/lang/Comparable"), (0, .class_ 4), (0, u "java/lang/Object")] 7

/-- java/lang/Comparable -/
def k4 : Class := { plain "java/lang/Comparable" (some 0) with
  accessFlags := 1537
  interfaces := #[]
  cf := some (fileOf pool4 1 #[] #[] 1537 3 #[] #[])
  fields := #[]
  methods := #[]
  instanceTypes := #[]
  staticTypes := #[]
  resolved := Array.replicate 12 none
  statics := none }

def pool5 : Array CpInfo := pool [(2, .class_ 4), (1, u "java/lang/CharSequence"), (42, .class_ 48), (0, u "java/lang/CharSequence$1CodePointIterator"), (10, .class_ 60), (0, u "java/lang/CharSequence$1CharIterator"), (5, .class_ 67), (0, u "java/lang/Object")] 63

/-- java/lang/CharSequence -/
def k5 : Class := { plain "java/lang/CharSequence" (some 0) with
  accessFlags := 1537
  interfaces := #[]
  cf := some (fileOf pool5 2 #[.nestMembers #[47, 59]] #[] 1537 66 #[] #[])
  fields := #[]
  methods := #[]
  instanceTypes := #[]
  staticTypes := #[]
  resolved := Array.replicate 131 none
  statics := none }

def pool6 : Array CpInfo := pool [(1, .class_ 2), (0, u "java/lang/constant/Constable"), (0, .class_ 4), (0, u "java/lang/Object")] 6

/-- java/lang/constant/Constable -/
def k6 : Class := { plain "java/lang/constant/Constable" (some 0) with
  accessFlags := 1537
  interfaces := #[]
  cf := some (fileOf pool6 1 #[] #[] 1537 3 #[] #[])
  fields := #[]
  methods := #[]
  instanceTypes := #[]
  staticTypes := #[]
  resolved := Array.replicate 11 none
  statics := none }

def pool7 : Array CpInfo := pool [(1, .class_ 2), (0, u "java/lang/constant/ConstantDesc"), (0, .class_ 4), (0, u "java/lang/Object")] 32

/-- java/lang/constant/ConstantDesc -/
def k7 : Class := { plain "java/lang/constant/ConstantDesc" (some 0) with
  accessFlags := 1537
  interfaces := #[]
  cf := some (fileOf pool7 1 #[] #[] 1537 3 #[] #[])
  fields := #[]
  methods := #[]
  instanceTypes := #[]
  staticTypes := #[]
  resolved := Array.replicate 37 none
  statics := none }

def pool8 : Array CpInfo := pool [(1, .methodref 2 3), (0, .class_ 4), (0, .nameAndType 5 6), (0, u "java/lang/Object"), (0, u "<init>"), (0, u "()V"), (2, .fieldref 10 11), (0, .class_ 12), (0, .nameAndType 13 14), (0, u "java/lang/String"), (0, u "value"), (0, u "[B"), (0, .fieldref 10 16), (0, .nameAndType 17 18), (0, u "coder"), (0, u "B"), (2, u "hash"), (0, u "I"), (2, u "hashIsZero"), (0, u "Z"), (0, .methodref 10 28), (0, .nameAndType 5 29), (0, u "([CIILjava/lang/Void;)V"), (8, .fieldref 10 39), (0, .nameAndType 40 26), (0, u "COMPACT_STRINGS"), (1, .class_ 44), (1, u "java/lang/StringUTF16"), (0, u "compress"), (1, .methodref 42 48), (0, .nameAndType 49 50), (0, u "coderFromArrayLen"), (0, u "([BI)B"), (56, .class_ 109), (1, u "java/lang/StringLatin1"), (32, u "()Z"), (34, .methodref 42 178), (0, .nameAndType 45 179), (0, u "([CII)[B"), (31, u "([BB)V"), (122, u "()I"), (0, .methodref 10 336), (0, .nameAndType 17 337), (0, u "()B"), (25, u "([BI)C"), (27, u "(II)V"), (35, u "(I)C"), (64, .methodref 10 493), (0, .nameAndType 494 142), (0, u "isLatin1"), (0, .methodref 107 496), (0, .nameAndType 497 363), (0, u "charAt"), (3, u "checkIndex"), (3, .methodref 10 506), (0, .nameAndType 507 334), (0, u "length"), (5, u "checkFromToIndex"), (7, .methodref 10 522), (0, .nameAndType 523 524), (0, u "checkBoundsBeginEnd"), (0, u "(III)V"), (18, u "equals"), (29, u "(Ljava/lang/Object;)Z"), (1, .class_ 576), (0, u "java/lang/CharSequence"), (22, u "CASE_INSENSITIVE_ORDER"), (0, u "Ljava/util/Comparator;"), (80, .methodref 10 682), (0, .nameAndType 683 684), (0, u "substring"), (0, u "(II)Ljava/lang/String;"), (0, .methodref 107 686), (0, .nameAndType 687 688), (0, u "newString"), (0, u "([BII)Ljava/lang/String;"), (3, u "isEmpty"), (199, u "(I)Ljava/lang/String;"), (117, u "([C)V"), (42, .fieldref 1054 1055), (0, .class_ 1056), (0, .nameAndType 1057 1058), (0, u "jdk/internal/util/Preconditions"), (0, u "SIOOBE_FORMATTER"), (0, u "Ljava/util/function/BiFunction;"), (0, .methodref 1054 1060), (0, .nameAndType 501 1061), (0, u "(IILjava/util/function/BiFunction;)I"), (0, .methodref 1054 1063), (0, .nameAndType 513 1064), (0, u "(IIILjava/util/function/BiFunction;)I"), (36, u "serialPersistentFields"), (0, u "[Ljava/io/ObjectStreamField;"), (0, .class_ 1104), (0, u "java/lang/String$CaseInsensitiveComparator"), (1, .class_ 1107), (0, u "java/io/Serializable"), (0, .class_ 1109), (0, u "java/lang/Comparable"), (0, .class_ 1111), (0, u "java/lang/constant/Constable"), (0, .class_ 1113), (0, u "java/lang/constant/ConstantDesc"), (2, u "serialVersionUID"), (0, u "J"), (3, u "REPL"), (0, u "C"), (2, u "LATIN1"), (1, u "UTF16")] 323

def k8m0 : Method := { name := "<init>", desc := "()V", sig := { parameters := [], returnType := none }, accessFlags := 1, code := none }
def k8c1 : Code := { maxStack := 5, maxLocals := 2, code := jdk_42_method_3_code, exceptionTable := #[], attributes := #[] }
def k8m1 : Method := { name := "<init>", desc := "([C)V", sig := { parameters := [(.array .char)], returnType := none }, accessFlags := 1, code := some k8c1 }
def k8c2 : Code := { maxStack := 2, maxLocals := 1, code := jdk_42_method_54_code, exceptionTable := #[], attributes := #[] }
def k8m2 : Method := { name := "length", desc := "()I", sig := { parameters := [], returnType := some .int }, accessFlags := 1, code := some k8c2 }
def k8c3 : Code := { maxStack := 1, maxLocals := 1, code := jdk_42_method_55_code, exceptionTable := #[], attributes := #[] }
def k8m3 : Method := { name := "isEmpty", desc := "()Z", sig := { parameters := [], returnType := some .boolean }, accessFlags := 1, code := some k8c3 }
def k8c4 : Code := { maxStack := 2, maxLocals := 2, code := jdk_42_method_56_code, exceptionTable := #[], attributes := #[] }
def k8m4 : Method := { name := "charAt", desc := "(I)C", sig := { parameters := [.int], returnType := some .char }, accessFlags := 1, code := some k8c4 }
def k8c5 : Code := { maxStack := 2, maxLocals := 3, code := jdk_42_method_66_code, exceptionTable := #[], attributes := #[] }
def k8m5 : Method := { name := "equals", desc := "(Ljava/lang/Object;)Z", sig := { parameters := [(.object "java/lang/Object")], returnType := some .boolean }, accessFlags := 1, code := some k8c5 }
def k8c6 : Code := { maxStack := 3, maxLocals := 2, code := jdk_42_method_91_code, exceptionTable := #[], attributes := #[] }
def k8m6 : Method := { name := "substring", desc := "(I)Ljava/lang/String;", sig := { parameters := [.int], returnType := some (.object "java/lang/String") }, accessFlags := 1, code := some k8c6 }
def k8c7 : Code := { maxStack := 3, maxLocals := 5, code := jdk_42_method_92_code, exceptionTable := #[], attributes := #[] }
def k8m7 : Method := { name := "substring", desc := "(II)Ljava/lang/String;", sig := { parameters := [.int, .int], returnType := some (.object "java/lang/String") }, accessFlags := 1, code := some k8c7 }
def k8c8 : Code := { maxStack := 4, maxLocals := 6, code := jdk_42_method_149_code, exceptionTable := #[], attributes := #[] }
def k8m8 : Method := { name := "<init>", desc := "([CIILjava/lang/Void;)V", sig := { parameters := [(.array .char), .int, .int, (.object "java/lang/Void")], returnType := none }, accessFlags := 2, code := some k8c8 }
def k8c9 : Code := { maxStack := 2, maxLocals := 3, code := jdk_42_method_151_code, exceptionTable := #[], attributes := #[] }
def k8m9 : Method := { name := "<init>", desc := "([BB)V", sig := { parameters := [(.array .byte), .byte], returnType := none }, accessFlags := 0, code := some k8c9 }
def k8c10 : Code := { maxStack := 1, maxLocals := 1, code := jdk_42_method_152_code, exceptionTable := #[], attributes := #[] }
def k8m10 : Method := { name := "coder", desc := "()B", sig := { parameters := [], returnType := some .byte }, accessFlags := 0, code := some k8c10 }
def k8c11 : Code := { maxStack := 1, maxLocals := 1, code := jdk_42_method_154_code, exceptionTable := #[], attributes := #[] }
def k8m11 : Method := { name := "isLatin1", desc := "()Z", sig := { parameters := [], returnType := some .boolean }, accessFlags := 0, code := some k8c11 }
def k8c12 : Code := { maxStack := 3, maxLocals := 2, code := jdk_42_method_155_code, exceptionTable := #[], attributes := #[] }
def k8m12 : Method := { name := "checkIndex", desc := "(II)V", sig := { parameters := [.int, .int], returnType := none }, accessFlags := 8, code := some k8c12 }
def k8c13 : Code := { maxStack := 4, maxLocals := 3, code := jdk_42_method_158_code, exceptionTable := #[], attributes := #[] }
def k8m13 : Method := { name := "checkBoundsBeginEnd", desc := "(III)V", sig := { parameters := [.int, .int, .int], returnType := none }, accessFlags := 8, code := some k8c13 }
/-- java/lang/String -/
def k8 : Class := { plain "java/lang/String" (some 0) with
  accessFlags := 49
  interfaces := #[3, 4, 5, 6, 7]
  cf := some (fileOf pool8 10 #[.nestMembers #[1103]] #[{ accessFlags := 1, nameIndex := 5, descriptorIndex := 6, attributes := #[] }, { accessFlags := 1, nameIndex := 5, descriptorIndex := 1010, attributes := #[] }, { accessFlags := 1, nameIndex := 507, descriptorIndex := 334, attributes := #[] }, { accessFlags := 1, nameIndex := 692, descriptorIndex := 142, attributes := #[] }, { accessFlags := 1, nameIndex := 497, descriptorIndex := 427, attributes := #[] }, { accessFlags := 1, nameIndex := 543, descriptorIndex := 573, attributes := #[] }, { accessFlags := 1, nameIndex := 683, descriptorIndex := 892, attributes := #[] }, { accessFlags := 1, nameIndex := 683, descriptorIndex := 684, attributes := #[] }, { accessFlags := 2, nameIndex := 5, descriptorIndex := 29, attributes := #[] }, { accessFlags := 0, nameIndex := 5, descriptorIndex := 211, attributes := #[] }, { accessFlags := 0, nameIndex := 17, descriptorIndex := 337, attributes := #[] }, { accessFlags := 0, nameIndex := 494, descriptorIndex := 142, attributes := #[] }, { accessFlags := 8, nameIndex := 501, descriptorIndex := 391, attributes := #[] }, { accessFlags := 8, nameIndex := 523, descriptorIndex := 524, attributes := #[] }] 49 2 #[1106, 1108, 575, 1110, 1112] #[{ accessFlags := 18, nameIndex := 13, descriptorIndex := 14, attributes := #[] }, { accessFlags := 18, nameIndex := 17, descriptorIndex := 18, attributes := #[] }, { accessFlags := 2, nameIndex := 21, descriptorIndex := 22, attributes := #[] }, { accessFlags := 2, nameIndex := 25, descriptorIndex := 26, attributes := #[] }, { accessFlags := 26, nameIndex := 1116, descriptorIndex := 1117, attributes := #[] }, { accessFlags := 24, nameIndex := 40, descriptorIndex := 26, attributes := #[] }, { accessFlags := 26, nameIndex := 1101, descriptorIndex := 1102, attributes := #[] }, { accessFlags := 26, nameIndex := 1121, descriptorIndex := 1122, attributes := #[] }, { accessFlags := 25, nameIndex := 599, descriptorIndex := 600, attributes := #[] }, { accessFlags := 24, nameIndex := 1125, descriptorIndex := 18, attributes := #[] }, { accessFlags := 24, nameIndex := 1127, descriptorIndex := 18, attributes := #[] }])
  fields := #[{ name := "value", type := (.array .byte), accessFlags := 18, slot := 0, constantValue := 0 }, { name := "coder", type := .byte, accessFlags := 18, slot := 1, constantValue := 0 }, { name := "hash", type := .int, accessFlags := 2, slot := 2, constantValue := 0 }, { name := "hashIsZero", type := .boolean, accessFlags := 2, slot := 3, constantValue := 0 }, { name := "serialVersionUID", type := .long, accessFlags := 26, slot := 0, constantValue := 0 }, { name := "COMPACT_STRINGS", type := .boolean, accessFlags := 24, slot := 1, constantValue := 0 }, { name := "serialPersistentFields", type := (.array (.object "java/io/ObjectStreamField")), accessFlags := 26, slot := 2, constantValue := 0 }, { name := "REPL", type := .char, accessFlags := 26, slot := 3, constantValue := 0 }, { name := "CASE_INSENSITIVE_ORDER", type := (.object "java/util/Comparator"), accessFlags := 25, slot := 4, constantValue := 0 }, { name := "LATIN1", type := .byte, accessFlags := 24, slot := 5, constantValue := 0 }, { name := "UTF16", type := .byte, accessFlags := 24, slot := 6, constantValue := 0 }]
  methods := #[k8m0, k8m1, k8m2, k8m3, k8m4, k8m5, k8m6, k8m7, k8m8, k8m9, k8m10, k8m11, k8m12, k8m13]
  instanceTypes := #[(.array .byte), .byte, .int, .boolean]
  staticTypes := #[.long, .boolean, (.array (.object "java/io/ObjectStreamField")), .char, (.object "java/util/Comparator"), .byte, .byte]
  resolved := Array.replicate 1451 none
  statics := some 0 }

def pool9 : Array CpInfo := pool [(6, .class_ 8), (1, u "java/lang/Object"), (0, u "<init>"), (0, u "()V"), (1, .class_ 14), (1, u "java/lang/StringUTF16"), (31, u "$assertionsDisabled"), (0, u "Z"), (13, u "HI_BYTE_SHIFT"), (0, u "I"), (2, u "LO_BYTE_SHIFT"), (49, .methodref 12 116), (0, .nameAndType 117 118), (0, u "compress"), (0, u "([CI[BII)I"), (3, u "([CII)[B"), (138, u "coderFromArrayLen"), (0, u "([BI)B"), (106, .class_ 371), (1, u "java/lang/StringUTF16$LinesSpliterator"), (58, u "MAX_LENGTH"), (196, .class_ 628), (0, u "java/lang/StringUTF16$CodePointsSpliterator"), (0, .class_ 630), (0, u "java/lang/StringUTF16$CharsSpliterator")] 4

def k9m0 : Method := { name := "<init>", desc := "()V", sig := { parameters := [], returnType := none }, accessFlags := 0, code := none }
def k9c1 : Code := { maxStack := 2, maxLocals := 2, code := jdk_52_method_15_code, exceptionTable := #[], attributes := #[] }
def k9m1 : Method := { name := "coderFromArrayLen", desc := "([BI)B", sig := { parameters := [(.array .byte), .int], returnType := some .byte }, accessFlags := 8, code := some k9c1 }
def k9c2 : Code := { maxStack := 5, maxLocals := 6, code := jdk_52_method_16_code, exceptionTable := #[], attributes := #[] }
def k9m2 : Method := { name := "compress", desc := "([CII)[B", sig := { parameters := [(.array .char), .int, .int], returnType := some (.array .byte) }, accessFlags := 9, code := some k9c2 }
def k9c3 : Code := { maxStack := 3, maxLocals := 7, code := jdk_52_method_21_code, exceptionTable := #[], attributes := #[] }
def k9m3 : Method := { name := "compress", desc := "([CI[BII)I", sig := { parameters := [(.array .char), .int, (.array .byte), .int, .int], returnType := some .int }, accessFlags := 9, code := some k9c3 }
/-- java/lang/StringUTF16 -/
def k9 : Class := { plain "java/lang/StringUTF16" (some 0) with
  accessFlags := 48
  interfaces := #[]
  cf := some (fileOf pool9 12 #[.nestMembers #[627, 629, 369]] #[{ accessFlags := 0, nameIndex := 9, descriptorIndex := 10, attributes := #[] }, { accessFlags := 8, nameIndex := 261, descriptorIndex := 262, attributes := #[] }, { accessFlags := 9, nameIndex := 117, descriptorIndex := 122, attributes := #[] }, { accessFlags := 9, nameIndex := 117, descriptorIndex := 118, attributes := #[] }] 48 6 #[] #[{ accessFlags := 26, nameIndex := 61, descriptorIndex := 62, attributes := #[] }, { accessFlags := 26, nameIndex := 65, descriptorIndex := 62, attributes := #[] }, { accessFlags := 24, nameIndex := 430, descriptorIndex := 62, attributes := #[] }, { accessFlags := 4120, nameIndex := 46, descriptorIndex := 47, attributes := #[] }])
  fields := #[{ name := "HI_BYTE_SHIFT", type := .int, accessFlags := 26, slot := 0, constantValue := 0 }, { name := "LO_BYTE_SHIFT", type := .int, accessFlags := 26, slot := 1, constantValue := 0 }, { name := "MAX_LENGTH", type := .int, accessFlags := 24, slot := 2, constantValue := 0 }, { name := "$assertionsDisabled", type := .boolean, accessFlags := 4120, slot := 3, constantValue := 0 }]
  methods := #[k9m0, k9m1, k9m2, k9m3]
  instanceTypes := #[]
  staticTypes := #[.int, .int, .int, .boolean]
  resolved := Array.replicate 635 none
  statics := none }

def pool10 : Array CpInfo := pool [(1, .class_ 2), (0, u "java/lang/Cloneable"), (0, .class_ 4), (0, u "java/lang/Object")] 2

/-- java/lang/Cloneable -/
def k10 : Class := { plain "java/lang/Cloneable" (some 0) with
  accessFlags := 1537
  interfaces := #[]
  cf := some (fileOf pool10 1 #[] #[] 1537 3 #[] #[])
  fields := #[]
  methods := #[]
  instanceTypes := #[]
  staticTypes := #[]
  resolved := Array.replicate 7 none
  statics := none }

def pool11 : Array CpInfo := pool [(1, .methodref 2 3), (0, .class_ 4), (0, .nameAndType 5 6), (0, u "java/lang/Object"), (0, u "<init>"), (0, u "()V"), (0, .fieldref 8 9), (0, .class_ 10), (0, .nameAndType 11 12), (0, u "com/example/copperline/copperline/Lexer"), (0, u "keywordPosition"), (0, u "I"), (0, .fieldref 8 14), (0, .nameAndType 15 16), (0, u "text"), (0, u "Ljava/lang/String;"), (0, .fieldref 8 18), (0, .nameAndType 19 12), (0, u "position"), (0, .fieldref 8 21), (0, .nameAndType 22 23), (0, u "reading"), (0, u "Lcom/example/copperline/copperline/Lexer$Reading;"), (0, .methodref 8 25), (0, .nameAndType 26 6), (0, u "skipBlanks"), (0, .methodref 28 29), (0, .class_ 30), (0, .nameAndType 31 32), (0, u "java/lang/String"), (0, u "length"), (0, u "()I"), (0, .methodref 28 34), (0, .nameAndType 35 36), (0, u "charAt"), (0, u "(I)C"), (18, .class_ 56), (0, u "com/example/copperline/copperline/Lexer$Spelt"), (3, .methodref 28 61), (0, .nameAndType 62 63), (0, u "substring"), (0, u "(I)Ljava/lang/String;"), (3, u "(C)Z"), (8, .class_ 78), (1, u "com/example/copperline/copperline/Lexer$Reading"), (3, .methodref 8 34), (27, .methodref 8 111), (0, .nameAndType 112 113), (0, u "digitsFrom"), (0, u "(I)I"), (14, .methodref 8 129), (0, .nameAndType 130 67), (0, u "isDigit"), (35, .class_ 167), (0, u "com/example/copperline/copperline/Lexer$Number"), (31, .integer 65529), (82, u "keywordThere"), (0, u "Lcom/example/copperline/copperline/Lexer$Spelt;"), (6, u "END"), (2, u "SINGLE_DIGITS"), (1, u "MAX_EXPONENT"), (0, u "(Ljava/lang/String;ILcom/example/copperline/copperline/Lexer$Reading;)V"), (5, u "rest"), (0, u "()Ljava/lang/String;"), (7, u "lineNumber")] 25

def k11c0 : Code := { maxStack := 2, maxLocals := 4, code := prog_36_method_1_code, exceptionTable := #[], attributes := #[] }
def k11m0 : Method := { name := "<init>", desc := "(Ljava/lang/String;ILcom/example/copperline/copperline/Lexer$Reading;)V", sig := { parameters := [(.object "java/lang/String"), .int, (.object "com/example/copperline/copperline/Lexer$Reading")], returnType := none }, accessFlags := 0, code := some k11c0 }
def k11c1 : Code := { maxStack := 2, maxLocals := 2, code := prog_36_method_8_code, exceptionTable := #[], attributes := #[] }
def k11m1 : Method := { name := "rest", desc := "()Ljava/lang/String;", sig := { parameters := [], returnType := some (.object "java/lang/String") }, accessFlags := 0, code := some k11c1 }
def k11c2 : Code := { maxStack := 3, maxLocals := 4, code := prog_36_method_15_code, exceptionTable := #[], attributes := #[] }
def k11m2 : Method := { name := "lineNumber", desc := "()I", sig := { parameters := [], returnType := some .int }, accessFlags := 0, code := some k11c2 }
def k11c3 : Code := { maxStack := 3, maxLocals := 1, code := prog_36_method_22_code, exceptionTable := #[], attributes := #[] }
def k11m3 : Method := { name := "skipBlanks", desc := "()V", sig := { parameters := [], returnType := none }, accessFlags := 2, code := some k11c3 }
def k11c4 : Code := { maxStack := 2, maxLocals := 3, code := prog_36_method_25_code, exceptionTable := #[], attributes := #[] }
def k11m4 : Method := { name := "digitsFrom", desc := "(I)I", sig := { parameters := [.int], returnType := some .int }, accessFlags := 2, code := some k11c4 }
def k11c5 : Code := { maxStack := 2, maxLocals := 2, code := prog_36_method_26_code, exceptionTable := #[], attributes := #[] }
def k11m5 : Method := { name := "charAt", desc := "(I)C", sig := { parameters := [.int], returnType := some .char }, accessFlags := 2, code := some k11c5 }
def k11c6 : Code := { maxStack := 2, maxLocals := 1, code := prog_36_method_28_code, exceptionTable := #[], attributes := #[] }
def k11m6 : Method := { name := "isDigit", desc := "(C)Z", sig := { parameters := [.char], returnType := some .boolean }, accessFlags := 10, code := some k11c6 }
/-- com/example/copperline/copperline/Lexer -/
def k11 : Class := { plain "com/example/copperline/copperline/Lexer" (some 0) with
  accessFlags := 48
  interfaces := #[]
  cf := some (fileOf pool11 8 #[.nestMembers #[55, 166, 76]] #[{ accessFlags := 0, nameIndex := 5, descriptorIndex := 296, attributes := #[] }, { accessFlags := 0, nameIndex := 302, descriptorIndex := 303, attributes := #[] }, { accessFlags := 0, nameIndex := 311, descriptorIndex := 32, attributes := #[] }, { accessFlags := 2, nameIndex := 26, descriptorIndex := 6, attributes := #[] }, { accessFlags := 2, nameIndex := 112, descriptorIndex := 113, attributes := #[] }, { accessFlags := 2, nameIndex := 35, descriptorIndex := 36, attributes := #[] }, { accessFlags := 10, nameIndex := 130, descriptorIndex := 67, attributes := #[] }] 48 2 #[] #[{ accessFlags := 24, nameIndex := 290, descriptorIndex := 12, attributes := #[] }, { accessFlags := 26, nameIndex := 293, descriptorIndex := 12, attributes := #[] }, { accessFlags := 26, nameIndex := 295, descriptorIndex := 12, attributes := #[] }, { accessFlags := 18, nameIndex := 15, descriptorIndex := 16, attributes := #[] }, { accessFlags := 18, nameIndex := 22, descriptorIndex := 23, attributes := #[] }, { accessFlags := 2, nameIndex := 19, descriptorIndex := 12, attributes := #[] }, { accessFlags := 2, nameIndex := 11, descriptorIndex := 12, attributes := #[] }, { accessFlags := 2, nameIndex := 282, descriptorIndex := 283, attributes := #[] }])
  fields := #[{ name := "END", type := .int, accessFlags := 24, slot := 0, constantValue := 0 }, { name := "SINGLE_DIGITS", type := .int, accessFlags := 26, slot := 1, constantValue := 0 }, { name := "MAX_EXPONENT", type := .int, accessFlags := 26, slot := 2, constantValue := 0 }, { name := "text", type := (.object "java/lang/String"), accessFlags := 18, slot := 0, constantValue := 0 }, { name := "reading", type := (.object "com/example/copperline/copperline/Lexer$Reading"), accessFlags := 18, slot := 1, constantValue := 0 }, { name := "position", type := .int, accessFlags := 2, slot := 2, constantValue := 0 }, { name := "keywordPosition", type := .int, accessFlags := 2, slot := 3, constantValue := 0 }, { name := "keywordThere", type := (.object "com/example/copperline/copperline/Lexer$Spelt"), accessFlags := 2, slot := 4, constantValue := 0 }]
  methods := #[k11m0, k11m1, k11m2, k11m3, k11m4, k11m5, k11m6]
  instanceTypes := #[(.object "java/lang/String"), (.object "com/example/copperline/copperline/Lexer$Reading"), .int, .int, (.object "com/example/copperline/copperline/Lexer$Spelt")]
  staticTypes := #[.int, .int, .int]
  resolved := Array.replicate 337 none
  statics := none }

def pool12 : Array CpInfo := pool [(2, .class_ 4), (1, u "java/lang/Enum"), (0, u "name"), (0, u "Ljava/lang/String;"), (2, u "ordinal"), (0, u "I"), (1, .class_ 14), (1, u "java/lang/Object"), (4, u "hash"), (86, .class_ 108), (1, u "java/lang/Enum$EnumDesc"), (2, .class_ 112), (0, u "java/lang/constant/Constable"), (0, .class_ 114), (0, u "java/lang/Comparable"), (0, .class_ 116), (0, u "java/io/Serializable")] 87

/-- java/lang/Enum -/
def k12 : Class := { plain "java/lang/Enum" (some 0) with
  accessFlags := 1057
  interfaces := #[6, 4, 3]
  cf := some (fileOf pool12 2 #[.nestMembers #[106]] #[] 1057 12 #[111, 113, 115] #[{ accessFlags := 18, nameIndex := 5, descriptorIndex := 6, attributes := #[] }, { accessFlags := 18, nameIndex := 9, descriptorIndex := 10, attributes := #[] }, { accessFlags := 2, nameIndex := 19, descriptorIndex := 10, attributes := #[] }])
  fields := #[{ name := "name", type := (.object "java/lang/String"), accessFlags := 18, slot := 0, constantValue := 0 }, { name := "ordinal", type := .int, accessFlags := 18, slot := 1, constantValue := 0 }, { name := "hash", type := .int, accessFlags := 2, slot := 2, constantValue := 0 }]
  methods := #[]
  instanceTypes := #[(.object "java/lang/String"), .int, .int]
  staticTypes := #[]
  resolved := Array.replicate 204 none
  statics := none }

def pool13 : Array CpInfo := pool [(1, .class_ 2), (0, u "com/example/copperline/copperline/Lexer$Reading"), (2, u "AS_WRITTEN"), (0, u "Lcom/example/copperline/copperline/Lexer$Reading;"), (2, u "KEYWORDS_ANYWHERE"), (2, u "MINIMAL_BASIC"), (2, u "$VALUES"), (0, u "[Lcom/example/copperline/copperline/Lexer$Reading;"), (6, .class_ 25), (1, u "java/lang/Enum"), (26, .class_ 53), (0, u "com/example/copperline/copperline/Lexer")] 2

/-- com/example/copperline/copperline/Lexer$Reading -/
def k13 : Class := { plain "com/example/copperline/copperline/Lexer$Reading" (some 12) with
  accessFlags := 16432
  interfaces := #[]
  cf := some (fileOf pool13 1 #[.nestHost 52] #[] 16432 23 #[] #[{ accessFlags := 16409, nameIndex := 5, descriptorIndex := 6, attributes := #[] }, { accessFlags := 16409, nameIndex := 9, descriptorIndex := 6, attributes := #[] }, { accessFlags := 16409, nameIndex := 12, descriptorIndex := 6, attributes := #[] }, { accessFlags := 4122, nameIndex := 15, descriptorIndex := 16, attributes := #[] }])
  fields := #[{ name := "AS_WRITTEN", type := (.object "com/example/copperline/copperline/Lexer$Reading"), accessFlags := 16409, slot := 0, constantValue := 0 }, { name := "KEYWORDS_ANYWHERE", type := (.object "com/example/copperline/copperline/Lexer$Reading"), accessFlags := 16409, slot := 1, constantValue := 0 }, { name := "MINIMAL_BASIC", type := (.object "com/example/copperline/copperline/Lexer$Reading"), accessFlags := 16409, slot := 2, constantValue := 0 }, { name := "$VALUES", type := (.array (.object "com/example/copperline/copperline/Lexer$Reading")), accessFlags := 4122, slot := 3, constantValue := 0 }]
  methods := #[]
  instanceTypes := #[(.object "java/lang/String"), .int, .int]
  staticTypes := #[(.object "com/example/copperline/copperline/Lexer$Reading"), (.object "com/example/copperline/copperline/Lexer$Reading"), (.object "com/example/copperline/copperline/Lexer$Reading"), (.array (.object "com/example/copperline/copperline/Lexer$Reading"))]
  resolved := Array.replicate 56 none
  statics := some 1 }

def pool14 : Array CpInfo := pool [(1, .class_ 2), (0, u "java/lang/String"), (1, .class_ 6), (1, u "java/lang/Object"), (0, u "<init>"), (0, u "()V"), (0, .methodref 1 10), (0, .nameAndType 11 12), (0, u "checkIndex"), (0, u "(II)V"), (1, .class_ 16), (1, u "java/lang/StringLatin1"), (36, u "([BI)C"), (58, .methodref 1 113), (0, .nameAndType 7 114), (0, u "([BB)V"), (6, u "$assertionsDisabled"), (0, u "Z"), (8, .class_ 133), (1, u "java/util/Arrays"), (62, u "newString"), (0, u "([BII)Ljava/lang/String;"), (23, .class_ 223), (1, u "java/lang/StringLatin1$LinesSpliterator"), (8, .methodref 131 233), (0, .nameAndType 234 235), (0, u "copyOfRange"), (0, u "([BII)[B"), (16, u "charAt"), (137, .class_ 391), (0, u "java/lang/StringLatin1$CharsSpliterator")] 3

def k14m0 : Method := { name := "<init>", desc := "()V", sig := { parameters := [], returnType := none }, accessFlags := 0, code := none }
def k14c1 : Code := { maxStack := 2, maxLocals := 2, code := jdk_43_method_2_code, exceptionTable := #[], attributes := #[] }
def k14m1 : Method := { name := "charAt", desc := "([BI)C", sig := { parameters := [(.array .byte), .int], returnType := some .char }, accessFlags := 9, code := some k14c1 }
def k14c2 : Code := { maxStack := 6, maxLocals := 3, code := jdk_43_method_47_code, exceptionTable := #[], attributes := #[] }
def k14m2 : Method := { name := "newString", desc := "([BII)Ljava/lang/String;", sig := { parameters := [(.array .byte), .int, .int], returnType := some (.object "java/lang/String") }, accessFlags := 9, code := some k14c2 }
/-- java/lang/StringLatin1 -/
def k14 : Class := { plain "java/lang/StringLatin1" (some 0) with
  accessFlags := 48
  interfaces := #[]
  cf := some (fileOf pool14 14 #[.nestMembers #[390, 221]] #[{ accessFlags := 0, nameIndex := 7, descriptorIndex := 8, attributes := #[] }, { accessFlags := 9, nameIndex := 252, descriptorIndex := 53, attributes := #[] }, { accessFlags := 9, nameIndex := 196, descriptorIndex := 197, attributes := #[] }] 48 4 #[] #[{ accessFlags := 4120, nameIndex := 121, descriptorIndex := 122, attributes := #[] }])
  fields := #[{ name := "$assertionsDisabled", type := .boolean, accessFlags := 4120, slot := 0, constantValue := 0 }]
  methods := #[k14m0, k14m1, k14m2]
  instanceTypes := #[]
  staticTypes := #[.boolean]
  resolved := Array.replicate 395 none
  statics := none }

def pool15 : Array CpInfo := pool [(2, .class_ 4), (1, u "java/lang/Object"), (0, u "<init>"), (0, u "()V"), (17, .class_ 26), (1, u "jdk/internal/util/Preconditions"), (6, u "checkIndex"), (13, u "checkFromToIndex"), (7, .class_ 56), (0, u "jdk/internal/util/Preconditions$4"), (57, .class_ 115), (0, u "jdk/internal/util/Preconditions$1"), (7, u "SIOOBE_FORMATTER"), (0, u "Ljava/util/function/BiFunction;"), (0, .class_ 126), (0, u "jdk/internal/util/Preconditions$2"), (3, u "AIOOBE_FORMATTER"), (0, .class_ 132), (0, u "jdk/internal/util/Preconditions$3"), (3, u "IOOBE_FORMATTER"), (41, u "(IILjava/util/function/BiFunction;)I"), (4, u "(IIILjava/util/function/BiFunction;)I")] 10

def k15m0 : Method := { name := "<init>", desc := "()V", sig := { parameters := [], returnType := none }, accessFlags := 1, code := none }
def k15c1 : Code := { maxStack := 3, maxLocals := 3, code := jdk_41_method_11_code, exceptionTable := #[], attributes := #[] }
def k15m1 : Method := { name := "checkIndex", desc := "(IILjava/util/function/BiFunction;)I", sig := { parameters := [.int, .int, (.object "java/util/function/BiFunction")], returnType := some .int }, accessFlags := 9, code := some k15c1 }
def k15c2 : Code := { maxStack := 4, maxLocals := 4, code := jdk_41_method_12_code, exceptionTable := #[], attributes := #[] }
def k15m2 : Method := { name := "checkFromToIndex", desc := "(IIILjava/util/function/BiFunction;)I", sig := { parameters := [.int, .int, .int, (.object "java/util/function/BiFunction")], returnType := some .int }, accessFlags := 9, code := some k15c2 }
/-- jdk/internal/util/Preconditions -/
def k15 : Class := { plain "jdk/internal/util/Preconditions" (some 0) with
  accessFlags := 33
  interfaces := #[]
  cf := some (fileOf pool15 24 #[.nestMembers #[55, 131, 125, 114]] #[{ accessFlags := 1, nameIndex := 5, descriptorIndex := 6, attributes := #[] }, { accessFlags := 9, nameIndex := 33, descriptorIndex := 178, attributes := #[] }, { accessFlags := 9, nameIndex := 47, descriptorIndex := 183, attributes := #[] }] 33 2 #[] #[{ accessFlags := 25, nameIndex := 123, descriptorIndex := 124, attributes := #[] }, { accessFlags := 25, nameIndex := 130, descriptorIndex := 124, attributes := #[] }, { accessFlags := 25, nameIndex := 136, descriptorIndex := 124, attributes := #[] }])
  fields := #[{ name := "SIOOBE_FORMATTER", type := (.object "java/util/function/BiFunction"), accessFlags := 25, slot := 0, constantValue := 0 }, { name := "AIOOBE_FORMATTER", type := (.object "java/util/function/BiFunction"), accessFlags := 25, slot := 1, constantValue := 0 }, { name := "IOOBE_FORMATTER", type := (.object "java/util/function/BiFunction"), accessFlags := 25, slot := 2, constantValue := 0 }]
  methods := #[k15m0, k15m1, k15m2]
  instanceTypes := #[]
  staticTypes := #[(.object "java/util/function/BiFunction"), (.object "java/util/function/BiFunction"), (.object "java/util/function/BiFunction")]
  resolved := Array.replicate 194 none
  statics := some 2 }

def pool16 : Array CpInfo := pool [(2, .class_ 4), (1, u "java/lang/Object"), (0, u "<init>"), (0, u "()V"), (6, .methodref 14 15), (0, .class_ 16), (0, .nameAndType 17 18), (0, u "java/util/Arrays"), (0, u "rangeCheck"), (0, u "(III)V"), (55, .class_ 76), (1, u "java/util/Arrays$NaturalOrder"), (36, .class_ 115), (1, u "java/util/Arrays$LegacyMergeSort"), (1, u "Z"), (21, u "copyOfRange"), (10, .methodref 151 152), (0, .class_ 153), (0, .nameAndType 154 155), (0, u "java/lang/System"), (0, u "arraycopy"), (0, u "(Ljava/lang/Object;ILjava/lang/Object;II)V"), (51, u "binarySearch0"), (1, .methodref 14 210), (0, .nameAndType 207 211), (0, u "([IIII)I"), (92, .methodref 305 306), (0, .class_ 307), (0, .nameAndType 308 309), (0, u "java/lang/Math"), (0, u "min"), (0, u "(II)I"), (29, .methodref 14 340), (0, .nameAndType 341 342), (0, u "copyOfRangeByte"), (0, u "([BII)[B"), (0, .methodref 14 344), (0, .nameAndType 345 346), (0, u "checkLength"), (0, u "(II)V"), (28, .class_ 376), (0, u "java/util/Arrays$ArrayList"), (68, u "$assertionsDisabled"), (269, u "MIN_ARRAY_SORT_GRAN"), (0, u "I"), (2, u "INSERTIONSORT_THRESHOLD"), (74, u "binarySearch"), (180, .class_ 976), (0, u "java/util/Arrays$ArrayItr")] 52

def k16m0 : Method := { name := "<init>", desc := "()V", sig := { parameters := [], returnType := none }, accessFlags := 2, code := none }
def k16c1 : Code := { maxStack := 4, maxLocals := 3, code := jdk_65_method_30_code, exceptionTable := #[], attributes := #[] }
def k16m1 : Method := { name := "rangeCheck", desc := "(III)V", sig := { parameters := [.int, .int, .int], returnType := none }, accessFlags := 8, code := some k16c1 }
def k16c2 : Code := { maxStack := 4, maxLocals := 4, code := jdk_65_method_58_code, exceptionTable := #[], attributes := #[] }
def k16m2 : Method := { name := "binarySearch", desc := "([IIII)I", sig := { parameters := [(.array .int), .int, .int, .int], returnType := some .int }, accessFlags := 9, code := some k16c2 }
def k16c3 : Code := { maxStack := 2, maxLocals := 8, code := jdk_65_method_59_code, exceptionTable := #[], attributes := #[] }
def k16m3 : Method := { name := "binarySearch0", desc := "([IIII)I", sig := { parameters := [(.array .int), .int, .int, .int], returnType := some .int }, accessFlags := 10, code := some k16c3 }
def k16c4 : Code := { maxStack := 4, maxLocals := 2, code := jdk_65_method_131_code, exceptionTable := #[], attributes := #[] }
def k16m4 : Method := { name := "checkLength", desc := "(II)V", sig := { parameters := [.int, .int], returnType := none }, accessFlags := 10, code := some k16c4 }
def k16c5 : Code := { maxStack := 3, maxLocals := 3, code := jdk_65_method_132_code, exceptionTable := #[], attributes := #[] }
def k16m5 : Method := { name := "copyOfRange", desc := "([BII)[B", sig := { parameters := [(.array .byte), .int, .int], returnType := some (.array .byte) }, accessFlags := 9, code := some k16c5 }
def k16c6 : Code := { maxStack := 6, maxLocals := 5, code := jdk_65_method_133_code, exceptionTable := #[], attributes := #[] }
def k16m6 : Method := { name := "copyOfRangeByte", desc := "([BII)[B", sig := { parameters := [(.array .byte), .int, .int], returnType := some (.array .byte) }, accessFlags := 10, code := some k16c6 }
/-- java/util/Arrays -/
def k16 : Class := { plain "java/util/Arrays" (some 0) with
  accessFlags := 49
  interfaces := #[]
  cf := some (fileOf pool16 14 #[.nestMembers #[975, 375, 113, 74]] #[{ accessFlags := 2, nameIndex := 5, descriptorIndex := 6, attributes := #[] }, { accessFlags := 8, nameIndex := 17, descriptorIndex := 18, attributes := #[] }, { accessFlags := 9, nameIndex := 794, descriptorIndex := 211, attributes := #[] }, { accessFlags := 10, nameIndex := 207, descriptorIndex := 211, attributes := #[] }, { accessFlags := 10, nameIndex := 345, descriptorIndex := 346, attributes := #[] }, { accessFlags := 9, nameIndex := 139, descriptorIndex := 342, attributes := #[] }, { accessFlags := 10, nameIndex := 341, descriptorIndex := 342, attributes := #[] }] 49 2 #[] #[{ accessFlags := 26, nameIndex := 715, descriptorIndex := 716, attributes := #[] }, { accessFlags := 26, nameIndex := 719, descriptorIndex := 716, attributes := #[] }, { accessFlags := 4120, nameIndex := 445, descriptorIndex := 117, attributes := #[] }])
  fields := #[{ name := "MIN_ARRAY_SORT_GRAN", type := .int, accessFlags := 26, slot := 0, constantValue := 0 }, { name := "INSERTIONSORT_THRESHOLD", type := .int, accessFlags := 26, slot := 1, constantValue := 0 }, { name := "$assertionsDisabled", type := .boolean, accessFlags := 4120, slot := 2, constantValue := 0 }]
  methods := #[k16m0, k16m1, k16m2, k16m3, k16m4, k16m5, k16m6]
  instanceTypes := #[]
  staticTypes := #[.int, .int, .boolean]
  resolved := Array.replicate 1029 none
  statics := none }

def pool17 : Array CpInfo := pool [(1, .class_ 2), (0, u "java/lang/Math"), (1, .class_ 6), (1, u "java/lang/Object"), (0, u "<init>"), (0, u "()V"), (89, .class_ 100), (1, u "java/lang/Math$RandomNumberGeneratorHolder"), (71, u "negativeZeroFloatBits"), (0, u "J"), (2, u "negativeZeroDoubleBits"), (24, u "min"), (43, u "$assertionsDisabled"), (0, u "Z"), (88, u "(II)I"), (2, u "twoToTheDoubleScaleDown"), (0, u "D"), (4, u "twoToTheDoubleScaleUp"), (9, u "E"), (3, u "PI"), (2, u "TAU"), (2, u "DEGREES_TO_RADIANS"), (0, u "RADIANS_TO_DEGREES")] 94

def k17m0 : Method := { name := "<init>", desc := "()V", sig := { parameters := [], returnType := none }, accessFlags := 2, code := none }
def k17c1 : Code := { maxStack := 2, maxLocals := 2, code := jdk_29_method_69_code, exceptionTable := #[], attributes := #[] }
def k17m1 : Method := { name := "min", desc := "(II)I", sig := { parameters := [.int, .int], returnType := some .int }, accessFlags := 9, code := some k17c1 }
/-- java/lang/Math -/
def k17 : Class := { plain "java/lang/Math" (some 0) with
  accessFlags := 49
  interfaces := #[]
  cf := some (fileOf pool17 1 #[.nestMembers #[98]] #[{ accessFlags := 2, nameIndex := 7, descriptorIndex := 8, attributes := #[] }, { accessFlags := 9, nameIndex := 201, descriptorIndex := 335, attributes := #[] }] 49 4 #[] #[{ accessFlags := 25, nameIndex := 354, descriptorIndex := 339, attributes := #[] }, { accessFlags := 25, nameIndex := 358, descriptorIndex := 339, attributes := #[] }, { accessFlags := 25, nameIndex := 361, descriptorIndex := 339, attributes := #[] }, { accessFlags := 26, nameIndex := 364, descriptorIndex := 339, attributes := #[] }, { accessFlags := 26, nameIndex := 365, descriptorIndex := 339, attributes := #[] }, { accessFlags := 26, nameIndex := 172, descriptorIndex := 173, attributes := #[] }, { accessFlags := 26, nameIndex := 176, descriptorIndex := 173, attributes := #[] }, { accessFlags := 8, nameIndex := 344, descriptorIndex := 339, attributes := #[] }, { accessFlags := 8, nameIndex := 338, descriptorIndex := 339, attributes := #[] }, { accessFlags := 4120, nameIndex := 245, descriptorIndex := 246, attributes := #[] }])
  fields := #[{ name := "E", type := .double, accessFlags := 25, slot := 0, constantValue := 0 }, { name := "PI", type := .double, accessFlags := 25, slot := 1, constantValue := 0 }, { name := "TAU", type := .double, accessFlags := 25, slot := 2, constantValue := 0 }, { name := "DEGREES_TO_RADIANS", type := .double, accessFlags := 26, slot := 3, constantValue := 0 }, { name := "RADIANS_TO_DEGREES", type := .double, accessFlags := 26, slot := 4, constantValue := 0 }, { name := "negativeZeroFloatBits", type := .long, accessFlags := 26, slot := 5, constantValue := 0 }, { name := "negativeZeroDoubleBits", type := .long, accessFlags := 26, slot := 6, constantValue := 0 }, { name := "twoToTheDoubleScaleUp", type := .double, accessFlags := 8, slot := 7, constantValue := 0 }, { name := "twoToTheDoubleScaleDown", type := .double, accessFlags := 8, slot := 8, constantValue := 0 }, { name := "$assertionsDisabled", type := .boolean, accessFlags := 4120, slot := 9, constantValue := 0 }]
  methods := #[k17m0, k17m1]
  instanceTypes := #[]
  staticTypes := #[.double, .double, .double, .double, .double, .long, .long, .double, .double, .boolean]
  resolved := Array.replicate 460 none
  statics := none }

def pool18 : Array CpInfo := pool [(2, .class_ 4), (1, u "java/lang/Object"), (0, u "<init>"), (0, u "()V"), (1, .class_ 10), (1, u "java/lang/System"), (0, u "allowSecurityManager"), (0, u "I"), (16, u "cons"), (0, u "Ljava/io/Console;"), (77, .class_ 110), (1, u "java/lang/System$CallersHolder"), (43, u "initialErrStream"), (0, u "Ljava/io/PrintStream;"), (19, u "security"), (0, u "Ljava/lang/SecurityManager;"), (31, .class_ 209), (0, u "java/lang/System$1"), (7, u "props"), (0, u "Ljava/util/Properties;"), (2, u "lineSeparator"), (0, u "Ljava/lang/String;"), (96, .class_ 321), (1, u "java/lang/System$LoggerFinder"), (5, .class_ 328), (0, u "java/lang/System$Logger"), (67, u "err"), (2, u "out"), (91, u "notSupportedJnuEncoding"), (15, u "in"), (17, u "initialIn"), (0, u "Ljava/io/InputStream;"), (35, u "bootLayer"), (0, u "Ljava/lang/ModuleLayer;"), (99, .class_ 664), (0, u "java/lang/System$2"), (9, u "NEVER"), (2, u "MAYBE"), (49, u "arraycopy"), (0, u "(Ljava/lang/Object;ILjava/lang/Object;II)V"), (72, .class_ 802), (0, u "java/lang/System$Logger$Level")] 31

def k18m0 : Method := { name := "<init>", desc := "()V", sig := { parameters := [], returnType := none }, accessFlags := 2, code := none }
def k18m1 : Method := { name := "arraycopy", desc := "(Ljava/lang/Object;ILjava/lang/Object;II)V", sig := { parameters := [(.object "java/lang/Object"), .int, (.object "java/lang/Object"), .int, .int], returnType := none }, accessFlags := 265, code := none }
/-- java/lang/System -/
def k18 : Class := { plain "java/lang/System" (some 0) with
  accessFlags := 49
  interfaces := #[]
  cf := some (fileOf pool18 8 #[.nestMembers #[319, 327, 801, 108, 663, 208]] #[{ accessFlags := 2, nameIndex := 5, descriptorIndex := 6, attributes := #[] }, { accessFlags := 265, nameIndex := 727, descriptorIndex := 728, attributes := #[] }] 49 2 #[] #[{ accessFlags := 25, nameIndex := 507, descriptorIndex := 526, attributes := #[] }, { accessFlags := 25, nameIndex := 399, descriptorIndex := 155, attributes := #[] }, { accessFlags := 25, nameIndex := 396, descriptorIndex := 155, attributes := #[] }, { accessFlags := 10, nameIndex := 525, descriptorIndex := 526, attributes := #[] }, { accessFlags := 26, nameIndex := 674, descriptorIndex := 12, attributes := #[] }, { accessFlags := 26, nameIndex := 677, descriptorIndex := 12, attributes := #[] }, { accessFlags := 10, nameIndex := 11, descriptorIndex := 12, attributes := #[] }, { accessFlags := 74, nameIndex := 175, descriptorIndex := 176, attributes := #[] }, { accessFlags := 10, nameIndex := 491, descriptorIndex := 222, attributes := #[] }, { accessFlags := 74, nameIndex := 29, descriptorIndex := 30, attributes := #[] }, { accessFlags := 74, nameIndex := 154, descriptorIndex := 155, attributes := #[] }, { accessFlags := 10, nameIndex := 217, descriptorIndex := 218, attributes := #[] }, { accessFlags := 10, nameIndex := 221, descriptorIndex := 222, attributes := #[] }, { accessFlags := 8, nameIndex := 562, descriptorIndex := 563, attributes := #[] }])
  fields := #[{ name := "in", type := (.object "java/io/InputStream"), accessFlags := 25, slot := 0, constantValue := 0 }, { name := "out", type := (.object "java/io/PrintStream"), accessFlags := 25, slot := 1, constantValue := 0 }, { name := "err", type := (.object "java/io/PrintStream"), accessFlags := 25, slot := 2, constantValue := 0 }, { name := "initialIn", type := (.object "java/io/InputStream"), accessFlags := 10, slot := 3, constantValue := 0 }, { name := "NEVER", type := .int, accessFlags := 26, slot := 4, constantValue := 0 }, { name := "MAYBE", type := .int, accessFlags := 26, slot := 5, constantValue := 0 }, { name := "allowSecurityManager", type := .int, accessFlags := 10, slot := 6, constantValue := 0 }, { name := "security", type := (.object "java/lang/SecurityManager"), accessFlags := 74, slot := 7, constantValue := 0 }, { name := "notSupportedJnuEncoding", type := (.object "java/lang/String"), accessFlags := 10, slot := 8, constantValue := 0 }, { name := "cons", type := (.object "java/io/Console"), accessFlags := 74, slot := 9, constantValue := 0 }, { name := "initialErrStream", type := (.object "java/io/PrintStream"), accessFlags := 74, slot := 10, constantValue := 0 }, { name := "props", type := (.object "java/util/Properties"), accessFlags := 10, slot := 11, constantValue := 0 }, { name := "lineSeparator", type := (.object "java/lang/String"), accessFlags := 10, slot := 12, constantValue := 0 }, { name := "bootLayer", type := (.object "java/lang/ModuleLayer"), accessFlags := 8, slot := 13, constantValue := 0 }]
  methods := #[k18m0, k18m1]
  instanceTypes := #[]
  staticTypes := #[(.object "java/io/InputStream"), (.object "java/io/PrintStream"), (.object "java/io/PrintStream"), (.object "java/io/InputStream"), .int, .int, .int, (.object "java/lang/SecurityManager"), (.object "java/lang/String"), (.object "java/io/Console"), (.object "java/io/PrintStream"), (.object "java/util/Properties"), (.object "java/lang/String"), (.object "java/lang/ModuleLayer")]
  resolved := Array.replicate 834 none
  statics := none }

def pool19 : Array CpInfo := pool [(9, u "<init>"), (6, .class_ 18), (1, u "java/lang/Object"), (0, u "()V"), (1, .class_ 23), (1, u "jdk/internal/util/ArraysSupport"), (0, u "LOG2_ARRAY_LONG_INDEX_SCALE"), (0, u "I"), (2, u "U"), (0, u "Ljdk/internal/misc/Unsafe;"), (8, u "BIG_ENDIAN"), (0, u "Z"), (8, u "LOG2_BYTE_BIT_SIZE"), (4, u "LOG2_ARRAY_INT_INDEX_SCALE"), (54, u "JLA"), (0, u "Ljdk/internal/access/JavaLangAccess;"), (11, u "LOG2_ARRAY_BOOLEAN_INDEX_SCALE"), (9, u "LOG2_ARRAY_BYTE_INDEX_SCALE"), (5, u "LOG2_ARRAY_CHAR_INDEX_SCALE"), (5, u "LOG2_ARRAY_SHORT_INDEX_SCALE"), (18, u "LOG2_ARRAY_FLOAT_INDEX_SCALE"), (24, u "LOG2_ARRAY_DOUBLE_INDEX_SCALE"), (89, u "T_BOOLEAN"), (2, u "T_CHAR"), (1, u "T_FLOAT"), (1, u "T_DOUBLE"), (1, u "T_BYTE"), (1, u "T_SHORT"), (1, u "T_INT"), (1, u "T_LONG"), (1, u "SOFT_MAX_ARRAY_LENGTH")] 83

def k19m0 : Method := { name := "<init>", desc := "()V", sig := { parameters := [], returnType := none }, accessFlags := 2, code := none }
/-- jdk/internal/util/ArraysSupport -/
def k19 : Class := { plain "jdk/internal/util/ArraysSupport" (some 0) with
  accessFlags := 33
  interfaces := #[]
  cf := some (fileOf pool19 21 #[] #[{ accessFlags := 2, nameIndex := 9, descriptorIndex := 19, attributes := #[] }] 33 16 #[] #[{ accessFlags := 24, nameIndex := 28, descriptorIndex := 29, attributes := #[] }, { accessFlags := 26, nameIndex := 38, descriptorIndex := 39, attributes := #[] }, { accessFlags := 25, nameIndex := 121, descriptorIndex := 25, attributes := #[] }, { accessFlags := 25, nameIndex := 131, descriptorIndex := 25, attributes := #[] }, { accessFlags := 25, nameIndex := 137, descriptorIndex := 25, attributes := #[] }, { accessFlags := 25, nameIndex := 143, descriptorIndex := 25, attributes := #[] }, { accessFlags := 25, nameIndex := 53, descriptorIndex := 25, attributes := #[] }, { accessFlags := 25, nameIndex := 24, descriptorIndex := 25, attributes := #[] }, { accessFlags := 25, nameIndex := 162, descriptorIndex := 25, attributes := #[] }, { accessFlags := 25, nameIndex := 187, descriptorIndex := 25, attributes := #[] }, { accessFlags := 26, nameIndex := 48, descriptorIndex := 25, attributes := #[] }, { accessFlags := 25, nameIndex := 277, descriptorIndex := 25, attributes := #[] }, { accessFlags := 25, nameIndex := 280, descriptorIndex := 25, attributes := #[] }, { accessFlags := 25, nameIndex := 282, descriptorIndex := 25, attributes := #[] }, { accessFlags := 25, nameIndex := 284, descriptorIndex := 25, attributes := #[] }, { accessFlags := 25, nameIndex := 286, descriptorIndex := 25, attributes := #[] }, { accessFlags := 25, nameIndex := 288, descriptorIndex := 25, attributes := #[] }, { accessFlags := 25, nameIndex := 290, descriptorIndex := 25, attributes := #[] }, { accessFlags := 25, nameIndex := 292, descriptorIndex := 25, attributes := #[] }, { accessFlags := 26, nameIndex := 108, descriptorIndex := 109, attributes := #[] }, { accessFlags := 25, nameIndex := 294, descriptorIndex := 25, attributes := #[] }])
  fields := #[{ name := "U", type := (.object "jdk/internal/misc/Unsafe"), accessFlags := 24, slot := 0, constantValue := 0 }, { name := "BIG_ENDIAN", type := .boolean, accessFlags := 26, slot := 1, constantValue := 0 }, { name := "LOG2_ARRAY_BOOLEAN_INDEX_SCALE", type := .int, accessFlags := 25, slot := 2, constantValue := 0 }, { name := "LOG2_ARRAY_BYTE_INDEX_SCALE", type := .int, accessFlags := 25, slot := 3, constantValue := 0 }, { name := "LOG2_ARRAY_CHAR_INDEX_SCALE", type := .int, accessFlags := 25, slot := 4, constantValue := 0 }, { name := "LOG2_ARRAY_SHORT_INDEX_SCALE", type := .int, accessFlags := 25, slot := 5, constantValue := 0 }, { name := "LOG2_ARRAY_INT_INDEX_SCALE", type := .int, accessFlags := 25, slot := 6, constantValue := 0 }, { name := "LOG2_ARRAY_LONG_INDEX_SCALE", type := .int, accessFlags := 25, slot := 7, constantValue := 0 }, { name := "LOG2_ARRAY_FLOAT_INDEX_SCALE", type := .int, accessFlags := 25, slot := 8, constantValue := 0 }, { name := "LOG2_ARRAY_DOUBLE_INDEX_SCALE", type := .int, accessFlags := 25, slot := 9, constantValue := 0 }, { name := "LOG2_BYTE_BIT_SIZE", type := .int, accessFlags := 26, slot := 10, constantValue := 0 }, { name := "T_BOOLEAN", type := .int, accessFlags := 25, slot := 11, constantValue := 0 }, { name := "T_CHAR", type := .int, accessFlags := 25, slot := 12, constantValue := 0 }, { name := "T_FLOAT", type := .int, accessFlags := 25, slot := 13, constantValue := 0 }, { name := "T_DOUBLE", type := .int, accessFlags := 25, slot := 14, constantValue := 0 }, { name := "T_BYTE", type := .int, accessFlags := 25, slot := 15, constantValue := 0 }, { name := "T_SHORT", type := .int, accessFlags := 25, slot := 16, constantValue := 0 }, { name := "T_INT", type := .int, accessFlags := 25, slot := 17, constantValue := 0 }, { name := "T_LONG", type := .int, accessFlags := 25, slot := 18, constantValue := 0 }, { name := "JLA", type := (.object "jdk/internal/access/JavaLangAccess"), accessFlags := 26, slot := 19, constantValue := 0 }, { name := "SOFT_MAX_ARRAY_LENGTH", type := .int, accessFlags := 25, slot := 20, constantValue := 0 }]
  methods := #[k19m0]
  instanceTypes := #[]
  staticTypes := #[(.object "jdk/internal/misc/Unsafe"), .boolean, .int, .int, .int, .int, .int, .int, .int, .int, .int, .int, .int, .int, .int, .int, .int, .int, .int, (.object "jdk/internal/access/JavaLangAccess"), .int]
  resolved := Array.replicate 378 none
  statics := none }

/-- the primitive byte -/
def k20 : Class := { plain "byte" none with kind := .primitive 'B', accessFlags := 0x411 }
/-- [B -/
def k21 : Class := { plain "[B" (some 0) with kind := .array 20 .byte, interfaces := #[10, 3], accessFlags := 1041 }

/-- the primitive char -/
def k22 : Class := { plain "char" none with kind := .primitive 'C', accessFlags := 0x411 }
/-- [C -/
def k23 : Class := { plain "[C" (some 0) with kind := .array 22 .char, interfaces := #[10, 3], accessFlags := 1041 }

/-- the primitive int -/
def k24 : Class := { plain "int" none with kind := .primitive 'I', accessFlags := 0x411 }
/-- [I -/
def k25 : Class := { plain "[I" (some 0) with kind := .array 24 .int, interfaces := #[10, 3], accessFlags := 1041 }

/-- [Ljava/lang/String; -/
def k26 : Class := { plain "[Ljava/lang/String;" (some 0) with kind := .array 8 (.object "java/lang/String"), interfaces := #[10, 3], accessFlags := 1041 }

def heap : Heap := #[{ cls := 8, slots := #[.long 0, .int 1, .null, .int 0, .null, .int 0, .int 0], vm := .statics 8 },
  { cls := 13, slots := #[.ref 3, .null, .null, .null], vm := .statics 13 },
  { cls := 15, slots := #[.null, .null, .null], vm := .statics 15 },
  { cls := 13, slots := #[.null, .int 0, .int 0], vm := .none }]
def classes : Array Class := #[k0, k1, k2, k3, k4, k5, k6, k7, k8, k9, k10, k11, k12, k13, k14, k15, k16, k17, k18, k19, k20, k21, k22, k23, k24, k25, k26]
def interned : List (Array UInt16 × Addr) := []
def slotsUsed : Nat := 17
def theMethod : MethodId := ⟨1, 4⟩
def args0 : Array Value := #[.int 5, .int 7, .int 3, .int 9]
def aboutOver (below : List Frame) : State where
  vm := { classes := classes, interned := interned.toArray }
  heap := heap
  slotsUsed := slotsUsed
  threads := #[{ frames := .invoking theMethod args0 :: below }]
def below0 : List Frame := [.native { method := ⟨0, 0⟩, args := #[] }]
def about1 : State := aboutOver below0
def p0 : Program := .bare "" "" ""
def e0 : Env := launch0.env 0 0 0
theorem w_frames : about1.frames = Frame.invoking theMethod args0 :: below0 := rfl
set_option maxRecDepth 65536 in
theorem w_args : argsFit about1.vm theMethod args0 = true := by decide +kernel
set_option maxRecDepth 65536 in
theorem w_heap : heapFits about1 = true := by decide +kernel
set_option maxRecDepth 65536 in
theorem w_runnable : about1.curStatus? = some .runnable := by decide +kernel
set_option maxRecDepth 65536 in
theorem w_alone : about1.alone = true := by decide +kernel
set_option maxRecDepth 65536 in
theorem w_named : about1.methodNamed? x = some theMethod := by decide +kernel
set_option maxRecDepth 65536 in
theorem w_hears : about1.hears theMethod below0 = true := by decide +kernel
set_option maxRecDepth 65536 in
theorem w_ripe : about1.ripe theMethod args0 below0 = true := by decide +kernel
theorem w_running : about1.status = .running := rfl
set_option maxRecDepth 65536 in
theorem w_room : about1.hasRoom e0.platform room_1 = true :=
  launch0.hasRoom_least _ room_1 (by decide +kernel) (by decide +kernel) (by decide +kernel) (by decide +kernel) (by decide +kernel) (by decide +kernel)
theorem allAtoms_all (ts : List Jvm.Cond) (a : Array Jvm.Value) (st : Jvm.State) : (allAtoms ts).before a st = ts.all (fun c => c.before a st) := by
  induction ts with
  | nil => rfl
  | cons c t ih =>
    show (Jvm.Cond.and c (allAtoms t)).before a st = _
    rw [Jvm.Cond.before_and, ih, List.all_cons]
def words1 : List Jvm.Cond := Jvm.Cond.code x code maxLocals ret :: tables_1
/-- a 'code' word, met by the world's own term for the bytes: nothing is compared byte by byte -/
theorem code_word {y : MethodName} {bytes : ByteArray} {mx : Nat} {rt : Option FieldType} {a : Array Value} {s : State} {m : MethodId} {meth : Method} {c : Code} (h1 : s.methodNamed? y = some m) (h2 : s.vm.method? m = some meth) (h3 : meth.code = some c) (h4 : c.code = bytes)
    (h5 : (c.maxLocals == mx && c.exceptionTable.isEmpty && decide (c.maxStack ≤ mostOperands) && decide (meth.sig.returnType = rt) && !meth.locks && decide (parseMethodDescriptor y.desc = some meth.sig)) = true) : (Jvm.Cond.code y bytes mx rt).before a s = true := by
  simp only [Bool.and_eq_true, beq_iff_eq, Bool.not_eq_true', decide_eq_true_eq] at h5
  obtain ⟨⟨⟨⟨⟨g1, g2⟩, g3⟩, g4⟩, g5⟩, g6⟩ := h5
  simp [Cond.before, Cond.holds, Cond.value, h1, h2, h3, h4, g1, g2, g3, g4, g5, g6]
def isCode : Jvm.Cond → Bool
  | .code _ _ _ _ => true
  | _ => false
theorem all_split {L : List Jvm.Cond} {P : Jvm.Cond → Bool} (h1 : L.all (fun c => isCode c || P c) = true) (h2 : ∀ c ∈ L.filter isCode, P c = true) : L.all P = true := by
  refine List.all_eq_true.mpr fun c hc => ?_
  have h := List.all_eq_true.mp h1 c hc
  rcases Bool.eq_false_or_eq_true (isCode c) with hi | hi
  · exact h2 c (List.mem_filter.mpr ⟨hc, hi⟩)
  · simpa [hi] using h
set_option maxRecDepth 65536 in
theorem w_c0 : (Jvm.Cond.code x code maxLocals ret).before args0 about1 = true := code_word (m := ⟨1, 4⟩) (meth := k1m4) (c := k1c4) (by decide +kernel) rfl rfl rfl (by decide +kernel)
set_option maxRecDepth 65536 in
theorem w_c1 : (Jvm.Cond.code ({ cls := "com/example/copperline/copperline/Program", name := "<init>", desc := "()V" } : Jvm.MethodName) prog_49_method_1_code (1 : Nat) (Option.none : Option Jvm.ClassFile.FieldType)).before args0 about1 = true := code_word (m := ⟨2, 0⟩) (meth := k2m0) (c := k2c0) (by decide +kernel) rfl rfl rfl (by decide +kernel)
set_option maxRecDepth 65536 in
theorem w_c2 : (Jvm.Cond.code ({ cls := "java/lang/Object", name := "<init>", desc := "()V" } : Jvm.MethodName) object_method_1_code (1 : Nat) (Option.none : Option Jvm.ClassFile.FieldType)).before args0 about1 = true := code_word (m := ⟨0, 0⟩) (meth := k0m0) (c := k0c0) (by decide +kernel) rfl rfl rfl (by decide +kernel)
set_option maxRecDepth 65536 in
theorem w_c3 : (Jvm.Cond.code ({ cls := "java/lang/String", name := "<init>", desc := "([C)V" } : Jvm.MethodName) jdk_42_method_3_code (2 : Nat) (Option.none : Option Jvm.ClassFile.FieldType)).before args0 about1 = true := code_word (m := ⟨8, 1⟩) (meth := k8m1) (c := k8c1) (by decide +kernel) rfl rfl rfl (by decide +kernel)
set_option maxRecDepth 65536 in
theorem w_c4 : (Jvm.Cond.code ({ cls := "java/lang/String", name := "<init>", desc := "([CIILjava/lang/Void;)V" } : Jvm.MethodName) jdk_42_method_149_code (6 : Nat) (Option.none : Option Jvm.ClassFile.FieldType)).before args0 about1 = true := code_word (m := ⟨8, 8⟩) (meth := k8m8) (c := k8c8) (by decide +kernel) rfl rfl rfl (by decide +kernel)
set_option maxRecDepth 65536 in
theorem w_c5 : (Jvm.Cond.code ({ cls := "java/lang/StringUTF16", name := "compress", desc := "([CII)[B" } : Jvm.MethodName) jdk_52_method_16_code (6 : Nat) (Option.some (Jvm.ClassFile.FieldType.array Jvm.ClassFile.FieldType.byte))).before args0 about1 = true := code_word (m := ⟨9, 2⟩) (meth := k9m2) (c := k9c2) (by decide +kernel) rfl rfl rfl (by decide +kernel)
set_option maxRecDepth 65536 in
theorem w_c6 : (Jvm.Cond.code ({ cls := "java/lang/StringUTF16", name := "compress", desc := "([CI[BII)I" } : Jvm.MethodName) jdk_52_method_21_code (7 : Nat) (Option.some Jvm.ClassFile.FieldType.int)).before args0 about1 = true := code_word (m := ⟨9, 3⟩) (meth := k9m3) (c := k9c3) (by decide +kernel) rfl rfl rfl (by decide +kernel)
set_option maxRecDepth 65536 in
theorem w_c7 : (Jvm.Cond.code ({ cls := "java/lang/StringUTF16", name := "coderFromArrayLen", desc := "([BI)B" } : Jvm.MethodName) jdk_52_method_15_code (2 : Nat) (Option.some Jvm.ClassFile.FieldType.byte)).before args0 about1 = true := code_word (m := ⟨9, 1⟩) (meth := k9m1) (c := k9c1) (by decide +kernel) rfl rfl rfl (by decide +kernel)
set_option maxRecDepth 65536 in
theorem w_c8 : (Jvm.Cond.code ({ cls := "com/example/copperline/copperline/Program", name := "version", desc := "()I" } : Jvm.MethodName) prog_49_method_7_code (1 : Nat) (Option.some Jvm.ClassFile.FieldType.int)).before args0 about1 = true := code_word (m := ⟨2, 4⟩) (meth := k2m4) (c := k2c4) (by decide +kernel) rfl rfl rfl (by decide +kernel)
set_option maxRecDepth 65536 in
theorem w_c9 : (Jvm.Cond.code ({ cls := "com/example/copperline/copperline/Program", name := "size", desc := "()I" } : Jvm.MethodName) prog_49_method_4_code (1 : Nat) (Option.some Jvm.ClassFile.FieldType.int)).before args0 about1 = true := code_word (m := ⟨2, 1⟩) (meth := k2m1) (c := k2c1) (by decide +kernel) rfl rfl rfl (by decide +kernel)
set_option maxRecDepth 65536 in
theorem w_c10 : (Jvm.Cond.code ({ cls := "com/example/copperline/copperline/Program", name := "replaceWith", desc := "(Lcom/example/copperline/copperline/Program;)V" } : Jvm.MethodName) prog_49_method_11_code (2 : Nat) (Option.none : Option Jvm.ClassFile.FieldType)).before args0 about1 = true := code_word (m := ⟨2, 6⟩) (meth := k2m6) (c := k2c6) (by decide +kernel) rfl rfl rfl (by decide +kernel)
set_option maxRecDepth 65536 in
theorem w_c11 : (Jvm.Cond.code ({ cls := "com/example/copperline/copperline/ProgramReplaceWithPinLaw", name := "same", desc := "(Lcom/example/copperline/copperline/Program;Lcom/example/copperline/copperline/Program;II)Z" } : Jvm.MethodName) method_3_code (4 : Nat) (Option.some Jvm.ClassFile.FieldType.boolean)).before args0 about1 = true := code_word (m := ⟨1, 2⟩) (meth := k1m2) (c := k1c2) (by decide +kernel) rfl rfl rfl (by decide +kernel)
set_option maxRecDepth 65536 in
theorem w_c12 : (Jvm.Cond.code ({ cls := "com/example/copperline/copperline/Program", name := "enter", desc := "(Ljava/lang/String;)Z" } : Jvm.MethodName) prog_49_method_10_code (4 : Nat) (Option.some Jvm.ClassFile.FieldType.boolean)).before args0 about1 = true := code_word (m := ⟨2, 5⟩) (meth := k2m5) (c := k2c5) (by decide +kernel) rfl rfl rfl (by decide +kernel)
set_option maxRecDepth 65536 in
theorem w_c13 : (Jvm.Cond.code ({ cls := "com/example/copperline/copperline/Lexer", name := "<init>", desc := "(Ljava/lang/String;ILcom/example/copperline/copperline/Lexer$Reading;)V" } : Jvm.MethodName) prog_36_method_1_code (4 : Nat) (Option.none : Option Jvm.ClassFile.FieldType)).before args0 about1 = true := code_word (m := ⟨11, 0⟩) (meth := k11m0) (c := k11c0) (by decide +kernel) rfl rfl rfl (by decide +kernel)
set_option maxRecDepth 65536 in
theorem w_c14 : (Jvm.Cond.code ({ cls := "com/example/copperline/copperline/Lexer", name := "lineNumber", desc := "()I" } : Jvm.MethodName) prog_36_method_15_code (4 : Nat) (Option.some Jvm.ClassFile.FieldType.int)).before args0 about1 = true := code_word (m := ⟨11, 2⟩) (meth := k11m2) (c := k11c2) (by decide +kernel) rfl rfl rfl (by decide +kernel)
set_option maxRecDepth 65536 in
theorem w_c15 : (Jvm.Cond.code ({ cls := "com/example/copperline/copperline/Lexer", name := "skipBlanks", desc := "()V" } : Jvm.MethodName) prog_36_method_22_code (1 : Nat) (Option.none : Option Jvm.ClassFile.FieldType)).before args0 about1 = true := code_word (m := ⟨11, 3⟩) (meth := k11m3) (c := k11c3) (by decide +kernel) rfl rfl rfl (by decide +kernel)
set_option maxRecDepth 65536 in
theorem w_c16 : (Jvm.Cond.code ({ cls := "java/lang/String", name := "length", desc := "()I" } : Jvm.MethodName) jdk_42_method_54_code (1 : Nat) (Option.some Jvm.ClassFile.FieldType.int)).before args0 about1 = true := code_word (m := ⟨8, 2⟩) (meth := k8m2) (c := k8c2) (by decide +kernel) rfl rfl rfl (by decide +kernel)
set_option maxRecDepth 65536 in
theorem w_c17 : (Jvm.Cond.code ({ cls := "java/lang/String", name := "coder", desc := "()B" } : Jvm.MethodName) jdk_42_method_152_code (1 : Nat) (Option.some Jvm.ClassFile.FieldType.byte)).before args0 about1 = true := code_word (m := ⟨8, 10⟩) (meth := k8m10) (c := k8c10) (by decide +kernel) rfl rfl rfl (by decide +kernel)
set_option maxRecDepth 65536 in
theorem w_c18 : (Jvm.Cond.code ({ cls := "java/lang/String", name := "charAt", desc := "(I)C" } : Jvm.MethodName) jdk_42_method_56_code (2 : Nat) (Option.some Jvm.ClassFile.FieldType.char)).before args0 about1 = true := code_word (m := ⟨8, 4⟩) (meth := k8m4) (c := k8c4) (by decide +kernel) rfl rfl rfl (by decide +kernel)
set_option maxRecDepth 65536 in
theorem w_c19 : (Jvm.Cond.code ({ cls := "java/lang/String", name := "isLatin1", desc := "()Z" } : Jvm.MethodName) jdk_42_method_154_code (1 : Nat) (Option.some Jvm.ClassFile.FieldType.boolean)).before args0 about1 = true := code_word (m := ⟨8, 11⟩) (meth := k8m11) (c := k8c11) (by decide +kernel) rfl rfl rfl (by decide +kernel)
set_option maxRecDepth 65536 in
theorem w_c20 : (Jvm.Cond.code ({ cls := "java/lang/StringLatin1", name := "charAt", desc := "([BI)C" } : Jvm.MethodName) jdk_43_method_2_code (2 : Nat) (Option.some Jvm.ClassFile.FieldType.char)).before args0 about1 = true := code_word (m := ⟨14, 1⟩) (meth := k14m1) (c := k14c1) (by decide +kernel) rfl rfl rfl (by decide +kernel)
set_option maxRecDepth 65536 in
theorem w_c21 : (Jvm.Cond.code ({ cls := "java/lang/String", name := "checkIndex", desc := "(II)V" } : Jvm.MethodName) jdk_42_method_155_code (2 : Nat) (Option.none : Option Jvm.ClassFile.FieldType)).before args0 about1 = true := code_word (m := ⟨8, 12⟩) (meth := k8m12) (c := k8c12) (by decide +kernel) rfl rfl rfl (by decide +kernel)
set_option maxRecDepth 65536 in
theorem w_c22 : (Jvm.Cond.code ({ cls := "jdk/internal/util/Preconditions", name := "checkIndex", desc := "(IILjava/util/function/BiFunction;)I" } : Jvm.MethodName) jdk_41_method_11_code (3 : Nat) (Option.some Jvm.ClassFile.FieldType.int)).before args0 about1 = true := code_word (m := ⟨15, 1⟩) (meth := k15m1) (c := k15c1) (by decide +kernel) rfl rfl rfl (by decide +kernel)
set_option maxRecDepth 65536 in
theorem w_c23 : (Jvm.Cond.code ({ cls := "com/example/copperline/copperline/Lexer", name := "digitsFrom", desc := "(I)I" } : Jvm.MethodName) prog_36_method_25_code (3 : Nat) (Option.some Jvm.ClassFile.FieldType.int)).before args0 about1 = true := code_word (m := ⟨11, 4⟩) (meth := k11m4) (c := k11c4) (by decide +kernel) rfl rfl rfl (by decide +kernel)
set_option maxRecDepth 65536 in
theorem w_c24 : (Jvm.Cond.code ({ cls := "com/example/copperline/copperline/Lexer", name := "charAt", desc := "(I)C" } : Jvm.MethodName) prog_36_method_26_code (2 : Nat) (Option.some Jvm.ClassFile.FieldType.char)).before args0 about1 = true := code_word (m := ⟨11, 5⟩) (meth := k11m5) (c := k11c5) (by decide +kernel) rfl rfl rfl (by decide +kernel)
set_option maxRecDepth 65536 in
theorem w_c25 : (Jvm.Cond.code ({ cls := "com/example/copperline/copperline/Lexer", name := "isDigit", desc := "(C)Z" } : Jvm.MethodName) prog_36_method_28_code (1 : Nat) (Option.some Jvm.ClassFile.FieldType.boolean)).before args0 about1 = true := code_word (m := ⟨11, 6⟩) (meth := k11m6) (c := k11c6) (by decide +kernel) rfl rfl rfl (by decide +kernel)
set_option maxRecDepth 65536 in
theorem w_c26 : (Jvm.Cond.code ({ cls := "com/example/copperline/copperline/Lexer", name := "rest", desc := "()Ljava/lang/String;" } : Jvm.MethodName) prog_36_method_8_code (2 : Nat) (Option.some (Jvm.ClassFile.FieldType.object "java/lang/String"))).before args0 about1 = true := code_word (m := ⟨11, 1⟩) (meth := k11m1) (c := k11c1) (by decide +kernel) rfl rfl rfl (by decide +kernel)
set_option maxRecDepth 65536 in
theorem w_c27 : (Jvm.Cond.code ({ cls := "java/lang/String", name := "substring", desc := "(I)Ljava/lang/String;" } : Jvm.MethodName) jdk_42_method_91_code (2 : Nat) (Option.some (Jvm.ClassFile.FieldType.object "java/lang/String"))).before args0 about1 = true := code_word (m := ⟨8, 6⟩) (meth := k8m6) (c := k8c6) (by decide +kernel) rfl rfl rfl (by decide +kernel)
set_option maxRecDepth 65536 in
theorem w_c28 : (Jvm.Cond.code ({ cls := "java/lang/String", name := "substring", desc := "(II)Ljava/lang/String;" } : Jvm.MethodName) jdk_42_method_92_code (5 : Nat) (Option.some (Jvm.ClassFile.FieldType.object "java/lang/String"))).before args0 about1 = true := code_word (m := ⟨8, 7⟩) (meth := k8m7) (c := k8c7) (by decide +kernel) rfl rfl rfl (by decide +kernel)
set_option maxRecDepth 65536 in
theorem w_c29 : (Jvm.Cond.code ({ cls := "java/lang/String", name := "checkBoundsBeginEnd", desc := "(III)V" } : Jvm.MethodName) jdk_42_method_158_code (3 : Nat) (Option.none : Option Jvm.ClassFile.FieldType)).before args0 about1 = true := code_word (m := ⟨8, 13⟩) (meth := k8m13) (c := k8c13) (by decide +kernel) rfl rfl rfl (by decide +kernel)
set_option maxRecDepth 65536 in
theorem w_c30 : (Jvm.Cond.code ({ cls := "jdk/internal/util/Preconditions", name := "checkFromToIndex", desc := "(IIILjava/util/function/BiFunction;)I" } : Jvm.MethodName) jdk_41_method_12_code (4 : Nat) (Option.some Jvm.ClassFile.FieldType.int)).before args0 about1 = true := code_word (m := ⟨15, 2⟩) (meth := k15m2) (c := k15c2) (by decide +kernel) rfl rfl rfl (by decide +kernel)
set_option maxRecDepth 65536 in
theorem w_c31 : (Jvm.Cond.code ({ cls := "java/lang/StringLatin1", name := "newString", desc := "([BII)Ljava/lang/String;" } : Jvm.MethodName) jdk_43_method_47_code (3 : Nat) (Option.some (Jvm.ClassFile.FieldType.object "java/lang/String"))).before args0 about1 = true := code_word (m := ⟨14, 2⟩) (meth := k14m2) (c := k14c2) (by decide +kernel) rfl rfl rfl (by decide +kernel)
set_option maxRecDepth 65536 in
theorem w_c32 : (Jvm.Cond.code ({ cls := "java/util/Arrays", name := "copyOfRange", desc := "([BII)[B" } : Jvm.MethodName) jdk_65_method_132_code (3 : Nat) (Option.some (Jvm.ClassFile.FieldType.array Jvm.ClassFile.FieldType.byte))).before args0 about1 = true := code_word (m := ⟨16, 5⟩) (meth := k16m5) (c := k16c5) (by decide +kernel) rfl rfl rfl (by decide +kernel)
set_option maxRecDepth 65536 in
theorem w_c33 : (Jvm.Cond.code ({ cls := "java/util/Arrays", name := "copyOfRangeByte", desc := "([BII)[B" } : Jvm.MethodName) jdk_65_method_133_code (5 : Nat) (Option.some (Jvm.ClassFile.FieldType.array Jvm.ClassFile.FieldType.byte))).before args0 about1 = true := code_word (m := ⟨16, 6⟩) (meth := k16m6) (c := k16c6) (by decide +kernel) rfl rfl rfl (by decide +kernel)
set_option maxRecDepth 65536 in
theorem w_c34 : (Jvm.Cond.code ({ cls := "java/util/Arrays", name := "checkLength", desc := "(II)V" } : Jvm.MethodName) jdk_65_method_131_code (2 : Nat) (Option.none : Option Jvm.ClassFile.FieldType)).before args0 about1 = true := code_word (m := ⟨16, 4⟩) (meth := k16m4) (c := k16c4) (by decide +kernel) rfl rfl rfl (by decide +kernel)
set_option maxRecDepth 65536 in
theorem w_c35 : (Jvm.Cond.code ({ cls := "java/lang/Math", name := "min", desc := "(II)I" } : Jvm.MethodName) jdk_29_method_69_code (2 : Nat) (Option.some Jvm.ClassFile.FieldType.int)).before args0 about1 = true := code_word (m := ⟨17, 1⟩) (meth := k17m1) (c := k17c1) (by decide +kernel) rfl rfl rfl (by decide +kernel)
set_option maxRecDepth 65536 in
theorem w_c36 : (Jvm.Cond.code ({ cls := "java/lang/String", name := "<init>", desc := "([BB)V" } : Jvm.MethodName) jdk_42_method_151_code (3 : Nat) (Option.none : Option Jvm.ClassFile.FieldType)).before args0 about1 = true := code_word (m := ⟨8, 9⟩) (meth := k8m9) (c := k8c9) (by decide +kernel) rfl rfl rfl (by decide +kernel)
set_option maxRecDepth 65536 in
theorem w_c37 : (Jvm.Cond.code ({ cls := "com/example/copperline/copperline/Program", name := "store", desc := "(ILjava/lang/String;)V" } : Jvm.MethodName) prog_49_method_12_code (5 : Nat) (Option.none : Option Jvm.ClassFile.FieldType)).before args0 about1 = true := code_word (m := ⟨2, 7⟩) (meth := k2m7) (c := k2c7) (by decide +kernel) rfl rfl rfl (by decide +kernel)
set_option maxRecDepth 65536 in
theorem w_c38 : (Jvm.Cond.code ({ cls := "com/example/copperline/copperline/Program", name := "placeOf", desc := "(I)I" } : Jvm.MethodName) prog_49_method_13_code (4 : Nat) (Option.some Jvm.ClassFile.FieldType.int)).before args0 about1 = true := code_word (m := ⟨2, 8⟩) (meth := k2m8) (c := k2c8) (by decide +kernel) rfl rfl rfl (by decide +kernel)
set_option maxRecDepth 65536 in
theorem w_c39 : (Jvm.Cond.code ({ cls := "java/lang/String", name := "isEmpty", desc := "()Z" } : Jvm.MethodName) jdk_42_method_55_code (1 : Nat) (Option.some Jvm.ClassFile.FieldType.boolean)).before args0 about1 = true := code_word (m := ⟨8, 3⟩) (meth := k8m3) (c := k8c3) (by decide +kernel) rfl rfl rfl (by decide +kernel)
set_option maxRecDepth 65536 in
theorem w_c40 : (Jvm.Cond.code ({ cls := "com/example/copperline/copperline/ProgramReplaceWithPinLaw", name := "kept", desc := "(Lcom/example/copperline/copperline/Program;IIILjava/lang/String;)Z" } : Jvm.MethodName) method_4_code (5 : Nat) (Option.some Jvm.ClassFile.FieldType.boolean)).before args0 about1 = true := code_word (m := ⟨1, 3⟩) (meth := k1m3) (c := k1c3) (by decide +kernel) rfl rfl rfl (by decide +kernel)
set_option maxRecDepth 65536 in
theorem w_c41 : (Jvm.Cond.code ({ cls := "com/example/copperline/copperline/ProgramReplaceWithPinLaw", name := "line", desc := "(I)Ljava/lang/String;" } : Jvm.MethodName) method_2_code (3 : Nat) (Option.some (Jvm.ClassFile.FieldType.object "java/lang/String"))).before args0 about1 = true := code_word (m := ⟨1, 1⟩) (meth := k1m1) (c := k1c1) (by decide +kernel) rfl rfl rfl (by decide +kernel)
set_option maxRecDepth 65536 in
theorem w_c42 : (Jvm.Cond.code ({ cls := "com/example/copperline/copperline/Program", name := "number", desc := "(I)I" } : Jvm.MethodName) prog_49_method_5_code (2 : Nat) (Option.some Jvm.ClassFile.FieldType.int)).before args0 about1 = true := code_word (m := ⟨2, 2⟩) (meth := k2m2) (c := k2c2) (by decide +kernel) rfl rfl rfl (by decide +kernel)
set_option maxRecDepth 65536 in
theorem w_c43 : (Jvm.Cond.code ({ cls := "com/example/copperline/copperline/Program", name := "text", desc := "(I)Ljava/lang/String;" } : Jvm.MethodName) prog_49_method_6_code (2 : Nat) (Option.some (Jvm.ClassFile.FieldType.object "java/lang/String"))).before args0 about1 = true := code_word (m := ⟨2, 3⟩) (meth := k2m3) (c := k2c3) (by decide +kernel) rfl rfl rfl (by decide +kernel)
set_option maxRecDepth 65536 in
theorem w_c44 : (Jvm.Cond.code ({ cls := "java/lang/String", name := "equals", desc := "(Ljava/lang/Object;)Z" } : Jvm.MethodName) jdk_42_method_66_code (3 : Nat) (Option.some Jvm.ClassFile.FieldType.boolean)).before args0 about1 = true := code_word (m := ⟨8, 5⟩) (meth := k8m5) (c := k8c5) (by decide +kernel) rfl rfl rfl (by decide +kernel)
set_option maxRecDepth 65536 in
theorem w_c45 : (Jvm.Cond.code ({ cls := "java/util/Arrays", name := "binarySearch", desc := "([IIII)I" } : Jvm.MethodName) jdk_65_method_58_code (4 : Nat) (Option.some Jvm.ClassFile.FieldType.int)).before args0 about1 = true := code_word (m := ⟨16, 2⟩) (meth := k16m2) (c := k16c2) (by decide +kernel) rfl rfl rfl (by decide +kernel)
set_option maxRecDepth 65536 in
theorem w_c46 : (Jvm.Cond.code ({ cls := "java/util/Arrays", name := "rangeCheck", desc := "(III)V" } : Jvm.MethodName) jdk_65_method_30_code (3 : Nat) (Option.none : Option Jvm.ClassFile.FieldType)).before args0 about1 = true := code_word (m := ⟨16, 1⟩) (meth := k16m1) (c := k16c1) (by decide +kernel) rfl rfl rfl (by decide +kernel)
set_option maxRecDepth 65536 in
theorem w_c47 : (Jvm.Cond.code ({ cls := "java/util/Arrays", name := "binarySearch0", desc := "([IIII)I" } : Jvm.MethodName) jdk_65_method_59_code (8 : Nat) (Option.some Jvm.ClassFile.FieldType.int)).before args0 about1 = true := code_word (m := ⟨16, 3⟩) (meth := k16m3) (c := k16c3) (by decide +kernel) rfl rfl rfl (by decide +kernel)
def codes1 : List Jvm.Cond := [Jvm.Cond.code x code maxLocals ret, Jvm.Cond.code ({ cls := "com/example/copperline/copperline/Program", name := "<init>", desc := "()V" } : Jvm.MethodName) prog_49_method_1_code (1 : Nat) (Option.none : Option Jvm.ClassFile.FieldType), Jvm.Cond.code ({ cls := "java/lang/Object", name := "<init>", desc := "()V" } : Jvm.MethodName) object_method_1_code (1 : Nat) (Option.none : Option Jvm.ClassFile.FieldType), Jvm.Cond.code ({ cls := "java/lang/String", name := "<init>", desc := "([C)V" } : Jvm.MethodName) jdk_42_method_3_code (2 : Nat) (Option.none : Option Jvm.ClassFile.FieldType), Jvm.Cond.code ({ cls := "java/lang/String", name := "<init>", desc := "([CIILjava/lang/Void;)V" } : Jvm.MethodName) jdk_42_method_149_code (6 : Nat) (Option.none : Option Jvm.ClassFile.FieldType), Jvm.Cond.code ({ cls := "java/lang/StringUTF16", name := "compress", desc := "([CII)[B" } : Jvm.MethodName) jdk_52_method_16_code (6 : Nat) (Option.some (Jvm.ClassFile.FieldType.array Jvm.ClassFile.FieldType.byte)), Jvm.Cond.code ({ cls := "java/lang/StringUTF16", name := "compress", desc := "([CI[BII)I" } : Jvm.MethodName) jdk_52_method_21_code (7 : Nat) (Option.some Jvm.ClassFile.FieldType.int), Jvm.Cond.code ({ cls := "java/lang/StringUTF16", name := "coderFromArrayLen", desc := "([BI)B" } : Jvm.MethodName) jdk_52_method_15_code (2 : Nat) (Option.some Jvm.ClassFile.FieldType.byte), Jvm.Cond.code ({ cls := "com/example/copperline/copperline/Program", name := "version", desc := "()I" } : Jvm.MethodName) prog_49_method_7_code (1 : Nat) (Option.some Jvm.ClassFile.FieldType.int), Jvm.Cond.code ({ cls := "com/example/copperline/copperline/Program", name := "size", desc := "()I" } : Jvm.MethodName) prog_49_method_4_code (1 : Nat) (Option.some Jvm.ClassFile.FieldType.int), Jvm.Cond.code ({ cls := "com/example/copperline/copperline/Program", name := "replaceWith", desc := "(Lcom/example/copperline/copperline/Program;)V" } : Jvm.MethodName) prog_49_method_11_code (2 : Nat) (Option.none : Option Jvm.ClassFile.FieldType), Jvm.Cond.code ({ cls := "com/example/copperline/copperline/ProgramReplaceWithPinLaw", name := "same", desc := "(Lcom/example/copperline/copperline/Program;Lcom/example/copperline/copperline/Program;II)Z" } : Jvm.MethodName) method_3_code (4 : Nat) (Option.some Jvm.ClassFile.FieldType.boolean), Jvm.Cond.code ({ cls := "com/example/copperline/copperline/Program", name := "enter", desc := "(Ljava/lang/String;)Z" } : Jvm.MethodName) prog_49_method_10_code (4 : Nat) (Option.some Jvm.ClassFile.FieldType.boolean), Jvm.Cond.code ({ cls := "com/example/copperline/copperline/Lexer", name := "<init>", desc := "(Ljava/lang/String;ILcom/example/copperline/copperline/Lexer$Reading;)V" } : Jvm.MethodName) prog_36_method_1_code (4 : Nat) (Option.none : Option Jvm.ClassFile.FieldType), Jvm.Cond.code ({ cls := "com/example/copperline/copperline/Lexer", name := "lineNumber", desc := "()I" } : Jvm.MethodName) prog_36_method_15_code (4 : Nat) (Option.some Jvm.ClassFile.FieldType.int), Jvm.Cond.code ({ cls := "com/example/copperline/copperline/Lexer", name := "skipBlanks", desc := "()V" } : Jvm.MethodName) prog_36_method_22_code (1 : Nat) (Option.none : Option Jvm.ClassFile.FieldType), Jvm.Cond.code ({ cls := "java/lang/String", name := "length", desc := "()I" } : Jvm.MethodName) jdk_42_method_54_code (1 : Nat) (Option.some Jvm.ClassFile.FieldType.int), Jvm.Cond.code ({ cls := "java/lang/String", name := "coder", desc := "()B" } : Jvm.MethodName) jdk_42_method_152_code (1 : Nat) (Option.some Jvm.ClassFile.FieldType.byte), Jvm.Cond.code ({ cls := "java/lang/String", name := "charAt", desc := "(I)C" } : Jvm.MethodName) jdk_42_method_56_code (2 : Nat) (Option.some Jvm.ClassFile.FieldType.char), Jvm.Cond.code ({ cls := "java/lang/String", name := "isLatin1", desc := "()Z" } : Jvm.MethodName) jdk_42_method_154_code (1 : Nat) (Option.some Jvm.ClassFile.FieldType.boolean), Jvm.Cond.code ({ cls := "java/lang/StringLatin1", name := "charAt", desc := "([BI)C" } : Jvm.MethodName) jdk_43_method_2_code (2 : Nat) (Option.some Jvm.ClassFile.FieldType.char), Jvm.Cond.code ({ cls := "java/lang/String", name := "checkIndex", desc := "(II)V" } : Jvm.MethodName) jdk_42_method_155_code (2 : Nat) (Option.none : Option Jvm.ClassFile.FieldType), Jvm.Cond.code ({ cls := "jdk/internal/util/Preconditions", name := "checkIndex", desc := "(IILjava/util/function/BiFunction;)I" } : Jvm.MethodName) jdk_41_method_11_code (3 : Nat) (Option.some Jvm.ClassFile.FieldType.int), Jvm.Cond.code ({ cls := "com/example/copperline/copperline/Lexer", name := "digitsFrom", desc := "(I)I" } : Jvm.MethodName) prog_36_method_25_code (3 : Nat) (Option.some Jvm.ClassFile.FieldType.int), Jvm.Cond.code ({ cls := "com/example/copperline/copperline/Lexer", name := "charAt", desc := "(I)C" } : Jvm.MethodName) prog_36_method_26_code (2 : Nat) (Option.some Jvm.ClassFile.FieldType.char), Jvm.Cond.code ({ cls := "com/example/copperline/copperline/Lexer", name := "isDigit", desc := "(C)Z" } : Jvm.MethodName) prog_36_method_28_code (1 : Nat) (Option.some Jvm.ClassFile.FieldType.boolean), Jvm.Cond.code ({ cls := "com/example/copperline/copperline/Lexer", name := "rest", desc := "()Ljava/lang/String;" } : Jvm.MethodName) prog_36_method_8_code (2 : Nat) (Option.some (Jvm.ClassFile.FieldType.object "java/lang/String")), Jvm.Cond.code ({ cls := "java/lang/String", name := "substring", desc := "(I)Ljava/lang/String;" } : Jvm.MethodName) jdk_42_method_91_code (2 : Nat) (Option.some (Jvm.ClassFile.FieldType.object "java/lang/String")), Jvm.Cond.code ({ cls := "java/lang/String", name := "substring", desc := "(II)Ljava/lang/String;" } : Jvm.MethodName) jdk_42_method_92_code (5 : Nat) (Option.some (Jvm.ClassFile.FieldType.object "java/lang/String")), Jvm.Cond.code ({ cls := "java/lang/String", name := "checkBoundsBeginEnd", desc := "(III)V" } : Jvm.MethodName) jdk_42_method_158_code (3 : Nat) (Option.none : Option Jvm.ClassFile.FieldType), Jvm.Cond.code ({ cls := "jdk/internal/util/Preconditions", name := "checkFromToIndex", desc := "(IIILjava/util/function/BiFunction;)I" } : Jvm.MethodName) jdk_41_method_12_code (4 : Nat) (Option.some Jvm.ClassFile.FieldType.int), Jvm.Cond.code ({ cls := "java/lang/StringLatin1", name := "newString", desc := "([BII)Ljava/lang/String;" } : Jvm.MethodName) jdk_43_method_47_code (3 : Nat) (Option.some (Jvm.ClassFile.FieldType.object "java/lang/String")), Jvm.Cond.code ({ cls := "java/util/Arrays", name := "copyOfRange", desc := "([BII)[B" } : Jvm.MethodName) jdk_65_method_132_code (3 : Nat) (Option.some (Jvm.ClassFile.FieldType.array Jvm.ClassFile.FieldType.byte)), Jvm.Cond.code ({ cls := "java/util/Arrays", name := "copyOfRangeByte", desc := "([BII)[B" } : Jvm.MethodName) jdk_65_method_133_code (5 : Nat) (Option.some (Jvm.ClassFile.FieldType.array Jvm.ClassFile.FieldType.byte)), Jvm.Cond.code ({ cls := "java/util/Arrays", name := "checkLength", desc := "(II)V" } : Jvm.MethodName) jdk_65_method_131_code (2 : Nat) (Option.none : Option Jvm.ClassFile.FieldType), Jvm.Cond.code ({ cls := "java/lang/Math", name := "min", desc := "(II)I" } : Jvm.MethodName) jdk_29_method_69_code (2 : Nat) (Option.some Jvm.ClassFile.FieldType.int), Jvm.Cond.code ({ cls := "java/lang/String", name := "<init>", desc := "([BB)V" } : Jvm.MethodName) jdk_42_method_151_code (3 : Nat) (Option.none : Option Jvm.ClassFile.FieldType), Jvm.Cond.code ({ cls := "com/example/copperline/copperline/Program", name := "store", desc := "(ILjava/lang/String;)V" } : Jvm.MethodName) prog_49_method_12_code (5 : Nat) (Option.none : Option Jvm.ClassFile.FieldType), Jvm.Cond.code ({ cls := "com/example/copperline/copperline/Program", name := "placeOf", desc := "(I)I" } : Jvm.MethodName) prog_49_method_13_code (4 : Nat) (Option.some Jvm.ClassFile.FieldType.int), Jvm.Cond.code ({ cls := "java/lang/String", name := "isEmpty", desc := "()Z" } : Jvm.MethodName) jdk_42_method_55_code (1 : Nat) (Option.some Jvm.ClassFile.FieldType.boolean), Jvm.Cond.code ({ cls := "com/example/copperline/copperline/ProgramReplaceWithPinLaw", name := "kept", desc := "(Lcom/example/copperline/copperline/Program;IIILjava/lang/String;)Z" } : Jvm.MethodName) method_4_code (5 : Nat) (Option.some Jvm.ClassFile.FieldType.boolean), Jvm.Cond.code ({ cls := "com/example/copperline/copperline/ProgramReplaceWithPinLaw", name := "line", desc := "(I)Ljava/lang/String;" } : Jvm.MethodName) method_2_code (3 : Nat) (Option.some (Jvm.ClassFile.FieldType.object "java/lang/String")), Jvm.Cond.code ({ cls := "com/example/copperline/copperline/Program", name := "number", desc := "(I)I" } : Jvm.MethodName) prog_49_method_5_code (2 : Nat) (Option.some Jvm.ClassFile.FieldType.int), Jvm.Cond.code ({ cls := "com/example/copperline/copperline/Program", name := "text", desc := "(I)Ljava/lang/String;" } : Jvm.MethodName) prog_49_method_6_code (2 : Nat) (Option.some (Jvm.ClassFile.FieldType.object "java/lang/String")), Jvm.Cond.code ({ cls := "java/lang/String", name := "equals", desc := "(Ljava/lang/Object;)Z" } : Jvm.MethodName) jdk_42_method_66_code (3 : Nat) (Option.some Jvm.ClassFile.FieldType.boolean), Jvm.Cond.code ({ cls := "java/util/Arrays", name := "binarySearch", desc := "([IIII)I" } : Jvm.MethodName) jdk_65_method_58_code (4 : Nat) (Option.some Jvm.ClassFile.FieldType.int), Jvm.Cond.code ({ cls := "java/util/Arrays", name := "rangeCheck", desc := "(III)V" } : Jvm.MethodName) jdk_65_method_30_code (3 : Nat) (Option.none : Option Jvm.ClassFile.FieldType), Jvm.Cond.code ({ cls := "java/util/Arrays", name := "binarySearch0", desc := "([IIII)I" } : Jvm.MethodName) jdk_65_method_59_code (8 : Nat) (Option.some Jvm.ClassFile.FieldType.int)]
set_option maxRecDepth 65536 in
theorem codes_eq : words1.filter isCode = codes1 := rfl
theorem w_codes : ∀ c ∈ words1.filter isCode, c.before args0 about1 = true := by
  rw [codes_eq]
  intro c hc
  simp only [codes1, List.mem_cons, List.not_mem_nil, or_false] at hc
  rcases hc with rfl | rfl | rfl | rfl | rfl | rfl | rfl | rfl | rfl | rfl | rfl | rfl | rfl | rfl | rfl | rfl | rfl | rfl | rfl | rfl | rfl | rfl | rfl | rfl | rfl | rfl | rfl | rfl | rfl | rfl | rfl | rfl | rfl | rfl | rfl | rfl | rfl | rfl | rfl | rfl | rfl | rfl | rfl | rfl | rfl | rfl | rfl | rfl
  · exact w_c0
  · exact w_c1
  · exact w_c2
  · exact w_c3
  · exact w_c4
  · exact w_c5
  · exact w_c6
  · exact w_c7
  · exact w_c8
  · exact w_c9
  · exact w_c10
  · exact w_c11
  · exact w_c12
  · exact w_c13
  · exact w_c14
  · exact w_c15
  · exact w_c16
  · exact w_c17
  · exact w_c18
  · exact w_c19
  · exact w_c20
  · exact w_c21
  · exact w_c22
  · exact w_c23
  · exact w_c24
  · exact w_c25
  · exact w_c26
  · exact w_c27
  · exact w_c28
  · exact w_c29
  · exact w_c30
  · exact w_c31
  · exact w_c32
  · exact w_c33
  · exact w_c34
  · exact w_c35
  · exact w_c36
  · exact w_c37
  · exact w_c38
  · exact w_c39
  · exact w_c40
  · exact w_c41
  · exact w_c42
  · exact w_c43
  · exact w_c44
  · exact w_c45
  · exact w_c46
  · exact w_c47
set_option maxRecDepth 65536 in
theorem w_t1 : (words1.take 24).all (fun c => isCode c || c.before args0 about1) = true := by decide +kernel
set_option maxRecDepth 65536 in
theorem w_t2 : ((words1.drop 24).take 24).all (fun c => isCode c || c.before args0 about1) = true := by decide +kernel
set_option maxRecDepth 65536 in
theorem w_t3 : (((words1.drop 24).drop 24).take 24).all (fun c => isCode c || c.before args0 about1) = true := by decide +kernel
set_option maxRecDepth 65536 in
theorem w_t4 : ((((words1.drop 24).drop 24).drop 24).take 24).all (fun c => isCode c || c.before args0 about1) = true := by decide +kernel
set_option maxRecDepth 65536 in
theorem w_t5 : (((((words1.drop 24).drop 24).drop 24).drop 24).take 24).all (fun c => isCode c || c.before args0 about1) = true := by decide +kernel
set_option maxRecDepth 65536 in
theorem w_t6 : ((((((words1.drop 24).drop 24).drop 24).drop 24).drop 24).take 24).all (fun c => isCode c || c.before args0 about1) = true := by decide +kernel
set_option maxRecDepth 65536 in
theorem w_t7 : (((((((words1.drop 24).drop 24).drop 24).drop 24).drop 24).drop 24).take 24).all (fun c => isCode c || c.before args0 about1) = true := by decide +kernel
set_option maxRecDepth 65536 in
theorem w_t8 : ((((((((words1.drop 24).drop 24).drop 24).drop 24).drop 24).drop 24).drop 24).take 24).all (fun c => isCode c || c.before args0 about1) = true := by decide +kernel
set_option maxRecDepth 65536 in
theorem w_t9 : (((((((((words1.drop 24).drop 24).drop 24).drop 24).drop 24).drop 24).drop 24).drop 24).take 24).all (fun c => isCode c || c.before args0 about1) = true := by decide +kernel
set_option maxRecDepth 65536 in
theorem w_t10 : ((((((((((words1.drop 24).drop 24).drop 24).drop 24).drop 24).drop 24).drop 24).drop 24).drop 24).take 24).all (fun c => isCode c || c.before args0 about1) = true := by decide +kernel
set_option maxRecDepth 65536 in
theorem w_t11 : ((((((((((words1.drop 24).drop 24).drop 24).drop 24).drop 24).drop 24).drop 24).drop 24).drop 24).drop 24).all (fun c => isCode c || c.before args0 about1) = true := by decide +kernel
theorem w_tables : (allAtoms (Jvm.Cond.code x code maxLocals ret :: tables_1)).before args0 about1 = true := by
  rw [allAtoms_all]
  show words1.all (fun c => c.before args0 about1) = true
  refine all_split ?_ w_codes
  rw [← List.take_append_drop 24 words1, List.all_append, w_t1, ← List.take_append_drop 24 (words1.drop 24), List.all_append, w_t2, ← List.take_append_drop 24 ((words1.drop 24).drop 24), List.all_append, w_t3, ← List.take_append_drop 24 (((words1.drop 24).drop 24).drop 24), List.all_append, w_t4, ← List.take_append_drop 24 ((((words1.drop 24).drop 24).drop 24).drop 24), List.all_append, w_t5, ← List.take_append_drop 24 (((((words1.drop 24).drop 24).drop 24).drop 24).drop 24), List.all_append, w_t6, ← List.take_append_drop 24 ((((((words1.drop 24).drop 24).drop 24).drop 24).drop 24).drop 24), List.all_append, w_t7, ← List.take_append_drop 24 (((((((words1.drop 24).drop 24).drop 24).drop 24).drop 24).drop 24).drop 24), List.all_append, w_t8, ← List.take_append_drop 24 ((((((((words1.drop 24).drop 24).drop 24).drop 24).drop 24).drop 24).drop 24).drop 24), List.all_append, w_t9, ← List.take_append_drop 24 (((((((((words1.drop 24).drop 24).drop 24).drop 24).drop 24).drop 24).drop 24).drop 24).drop 24), List.all_append, w_t10, w_t11]
  rfl
set_option maxRecDepth 65536 in
theorem w_rest : rest_1_c.before args0 about1 = true := by decide +kernel
set_option maxRecDepth 65536 in
theorem w_case : (Jvm.Cond.and given_1 narrow_1).before args0 about1 = true := by decide +kernel
theorem w_applies : (headSpec (Jvm.Cond.code x code maxLocals ret :: tables_1) room_1).applies x e0.platform about1 = true :=
  (Spec.applies_iff w_frames).mpr ⟨w_running, w_runnable, w_alone, w_named, w_hears, w_ripe, w_room, w_tables⟩
theorem atStart : AtStart classFile x code maxLocals ret World_1 tables_1 room_1 Calls_1 rest_1 Pre_1 launch0 p0 e0 about1 theMethod args0 below0 :=
  ⟨lists_1, trivial, launch0.admits_env _ _ _, launch0.least_env, fairChoices_fair.cas, fairChoices_fair.clock, w_frames, w_args, w_heap, w_applies, trivial, w_rest, w_case⟩
end start1
theorem witness_1 : WitnessClaimed_1 := ⟨start1.p0, start1.e0, start1.about1, start1.theMethod, start1.args0, start1.below0, start1.atStart⟩
end Jvm.Pilot.@@N@@
