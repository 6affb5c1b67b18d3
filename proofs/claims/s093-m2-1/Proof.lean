import JvmDerived
import JvmDerived.Pilot.@@N@@Statement
import JvmDerived.Pilot.@@N@@Code
set_option linter.unusedVariables false
set_option linter.unusedSimpArgs false
namespace Jvm.RoadKit
open Sem ClassFile Op Lib Jvm.Stand Jvm.Free Jvm.LawKit
section New
variable {p : Program} {l : Launch} {e : Env} {R : Room} {s : State} {m : MethodId} {args : Array Value} {below : List Frame} {meth : Method} {c : Code} {T : State} {locs : List Loc} {cells slots : Nat}
theorem retI (X : Stand p l e R s m args below meth c T locs cells slots) (hx : p.tables.exec = Jvm.exec) {pc : Nat} {Ls : Array Slot} {z : Int32} {rest : List Value} (hret : meth.sig.returnType = some .int) (hd : decode c.code pc = .ok (.ireturn, 1)) {fs : List Frame}
    (hl : ∀ (f : JFrame) (acts : List Action), f.method = m → f.locked = none → f.entered = [] → (doReturn e (T.setTop f) acts (some (.int z))).1 = T.setFrames fs) : Steps p.tables e below (T.setTop (mkF m pc Ls (.int z :: rest))) (T.setFrames fs) := by
  have hm' : T.vm.method? m = some meth := X.method'
  have hn : narrow .int (.int z) = .int z := rfl
  show Steps p.tables e below (T.setTop { method := m, pc := pc, locals := Ls, stack := _ :: rest, locked := none }) _
  jvm_step X.here [X.here.top, hx, hd, hm', hret, hn]
  first | (intro acts; rw [hl _ acts rfl rfl rfl]) | rw [hl _ _ rfl rfl rfl]
  exact Steps.refl _
theorem retL (X : Stand p l e R s m args below meth c T locs cells slots) (hx : p.tables.exec = Jvm.exec) {pc : Nat} {Ls : Array Slot} {z : Int64} {rest : List Value} (hret : meth.sig.returnType = some .long) (hd : decode c.code pc = .ok (.lreturn, 1)) {fs : List Frame}
    (hl : ∀ (f : JFrame) (acts : List Action), f.method = m → f.locked = none → f.entered = [] → (doReturn e (T.setTop f) acts (some (.long z))).1 = T.setFrames fs) : Steps p.tables e below (T.setTop (mkF m pc Ls (.long z :: rest))) (T.setFrames fs) := by
  have hm' : T.vm.method? m = some meth := X.method'
  have hn : narrow .long (.long z) = .long z := rfl
  show Steps p.tables e below (T.setTop { method := m, pc := pc, locals := Ls, stack := _ :: rest, locked := none }) _
  jvm_step X.here [X.here.top, hx, hd, hm', hret, hn]
  first | (intro acts; rw [hl _ acts rfl rfl rfl]) | rw [hl _ _ rfl rfl rfl]
  exact Steps.refl _
theorem retA (X : Stand p l e R s m args below meth c T locs cells slots) (hx : p.tables.exec = Jvm.exec) {pc : Nat} {Ls : Array Slot} {z : Value} {ty : FieldType} {rest : List Value} (hv : z.isRef = true) (hty : ty.isReference = true) (hret : meth.sig.returnType = some ty) (hd : decode c.code pc = .ok (.areturn, 1)) {fs : List Frame}
    (hl : ∀ (f : JFrame) (acts : List Action), f.method = m → f.locked = none → f.entered = [] → (doReturn e (T.setTop f) acts (some z)).1 = T.setFrames fs) : Steps p.tables e below (T.setTop (mkF m pc Ls (z :: rest))) (T.setFrames fs) := by
  have hm' : T.vm.method? m = some meth := X.method'
  show Steps p.tables e below (T.setTop { method := m, pc := pc, locals := Ls, stack := _ :: rest, locked := none }) _
  jvm_step X.here [X.here.top, hx, hd, hm', hret, hv, hty]
  first | (intro acts; rw [hl _ acts rfl rfl rfl]) | rw [hl _ _ rfl rfl rfl]
  exact Steps.refl _
end New
theorem own_fw {tb : Tables} {e : Env} {below : List Frame} {A B : State} {P : State → Outcome → Prop} (h : ∀ t, Steps tb e below A t → Steps tb e below B t) (k : ∃ t o, Steps tb e below A t ∧ P t o) : ∃ t o, Steps tb e below B t ∧ P t o := by
  obtain ⟨t, o, h1, h2⟩ := k
  exact ⟨t, o, h t h1, h2⟩
def own_irem (x y : Int32) : Int32 := x - (x / y) * y
def own_lrem (x y : Int64) : Int64 := x - (x / y) * y
end Jvm.RoadKit
namespace Jvm.FP.Core
theorem own_shift (k z d : Nat) (hd : 0 < d) : nearest ((2 * k) * d + z) d = 2 * k + nearest z d := by
  unfold nearest
  have h1 : ((2 * k) * d + z) % d = z % d := by rw [Nat.add_comm, Nat.add_mul_mod_self_right]
  have h2 : ((2 * k) * d + z) / d = 2 * k + z / d := by rw [Nat.add_comm, Nat.add_mul_div_right _ _ hd, Nat.add_comm]
  rw [h1, h2]
  split
  · rfl
  · split
    · omega
    · omega
theorem own_dbl (n d : Nat) (hd : 0 < d) (h : d ≤ 2 ^ 28) : nearest n d = nearest (nearest (n * 2 ^ 29) d) (2 ^ 29) := by
  have e1 : n = (n / d) * d + n % d := by rw [Nat.mul_comm]; exact (Nat.div_add_mod n d).symm
  have hr : n % d < d := Nat.mod_lt _ hd
  have e2 : n * 2 ^ 29 = (2 * ((n / d) * 2 ^ 28)) * d + (n % d) * 2 ^ 29 := by
    have : n * 2 ^ 29 = ((n / d) * d + n % d) * 2 ^ 29 := by rw [← e1]
    have e3 : (n / d) * d * 2 ^ 29 = (2 * ((n / d) * 2 ^ 28)) * d := by
      rw [show (2 : Nat) ^ 29 = 2 * 2 ^ 28 by decide]
      generalize (2 : Nat) ^ 28 = P
      ac_rfl
    rw [this, Nat.add_mul, e3]
  rw [e2, own_shift _ _ _ hd]
  have lo : ∀ M, M * d ≤ (n % d) * 2 ^ 29 → M ≤ nearest ((n % d) * 2 ^ 29) d := fun M q => nearest_ge hd q
  have hi : ∀ M, (n % d) * 2 ^ 29 ≤ M * d → nearest ((n % d) * 2 ^ 29) d ≤ M := fun M q => nearest_le hd q
  have top : nearest ((n % d) * 2 ^ 29) d ≤ 2 ^ 29 := hi _ (by rw [Nat.mul_comm]; exact Nat.mul_le_mul_left _ (Nat.le_of_lt hr))
  generalize hk : n / d = k at *
  generalize hρ : n % d = ρ at *
  have key : nearest n d = if 2 * ρ < d then k else if d < 2 * ρ then k + 1 else k + k % 2 := by
    unfold nearest; rw [hk, hρ]
  rw [key]
  by_cases c1 : 2 * ρ < d
  · rw [if_pos c1]
    have z : nearest (ρ * 2 ^ 29) d ≤ 2 ^ 28 - 1 := hi _ (by
      have : 2 ^ 28 * (2 * ρ) ≤ 2 ^ 28 * (d - 1) := Nat.mul_le_mul_left _ (by omega)
      have e : ρ * 2 ^ 29 = 2 ^ 28 * (2 * ρ) := by rw [show (2 : Nat) ^ 29 = 2 * 2 ^ 28 by decide]; generalize (2 : Nat) ^ 28 = P; ac_rfl
      rw [e]
      refine Nat.le_trans this ?_
      rw [Nat.mul_sub, Nat.mul_one, Nat.sub_mul, Nat.one_mul]
      omega)
    generalize nearest (ρ * 2 ^ 29) d = y at *
    unfold nearest
    split
    · omega
    · split
      · omega
      · omega
  · rw [if_neg c1]
    by_cases c2 : d < 2 * ρ
    · rw [if_pos c2]
      have z : 2 ^ 28 + 1 ≤ nearest (ρ * 2 ^ 29) d := lo _ (by
        have : 2 ^ 28 * (d + 1) ≤ 2 ^ 28 * (2 * ρ) := Nat.mul_le_mul_left _ (by omega)
        have e : ρ * 2 ^ 29 = 2 ^ 28 * (2 * ρ) := by rw [show (2 : Nat) ^ 29 = 2 * 2 ^ 28 by decide]; generalize (2 : Nat) ^ 28 = P; ac_rfl
        rw [e]
        refine Nat.le_trans ?_ this
        rw [Nat.add_mul, Nat.mul_add, Nat.one_mul]
        omega)
      generalize nearest (ρ * 2 ^ 29) d = y at *
      unfold nearest
      split
      · omega
      · split
        · omega
        · omega
    · rw [if_neg c2]
      have c3 : d = 2 * ρ := by omega
      have z : nearest (ρ * 2 ^ 29) d = 2 ^ 28 := by
        rw [show ρ * 2 ^ 29 = 2 ^ 28 * d by rw [c3, show (2 : Nat) ^ 29 = 2 * 2 ^ 28 by decide]; generalize (2 : Nat) ^ 28 = P; ac_rfl]
        exact nearest_exact _ hd
      rw [z]
      unfold nearest
      split
      · omega
      · split
        · omega
        · omega

theorem own_lead {c d : Nat} (hc0 : 0 < c) (hd0 : 0 < d) (hc : c < 2 ^ 24) (hd : d < 2 ^ 24) : -24 ≤ leading c d ∧ leading c d ≤ 23 := by
  obtain ⟨h1, h2⟩ := leading_spec hc0 hd0
  unfold Below at h1 h2
  generalize leading c d = L at *
  constructor
  · refine Int.not_lt.mp fun q => ?_
    have e1 : (L + 1).toNat = 0 := by omega
    rw [e1, Nat.pow_zero, Nat.mul_one] at h2
    have : 2 ^ 24 ≤ 2 ^ (-(L + 1)).toNat := Nat.pow_le_pow_right (by decide) (by omega)
    have : 1 * 2 ^ 24 ≤ c * 2 ^ (-(L + 1)).toNat := Nat.mul_le_mul hc0 this
    omega
  · refine Int.not_lt.mp fun q => h1 ?_
    have e1 : (-L).toNat = 0 := by omega
    rw [e1, Nat.pow_zero, Nat.mul_one]
    have : 2 ^ 24 ≤ 2 ^ L.toNat := Nat.pow_le_pow_right (by decide) (by omega)
    have : 1 * 2 ^ 24 ≤ d * 2 ^ L.toNat := Nat.mul_le_mul hd0 this
    omega
theorem own_low {c d : Nat} (hc0 : 0 < c) (hd0 : 0 < d) {k : Nat} (hk : leading c d ≤ k) : 2 ^ k * d ≤ c * 2 ^ ((k : Int) - leading c d).toNat := by
  obtain ⟨h1, h2⟩ := leading_spec hc0 hd0
  unfold Below at h1
  generalize leading c d = L at *
  have h1 := Nat.le_of_not_lt h1
  have e : ((k : Int) - L).toNat + L.toNat = k + (-L).toNat := by omega
  refine Nat.le_of_mul_le_mul_right (c := 2 ^ L.toNat) ?_ (Nat.two_pow_pos _)
  calc 2 ^ k * d * 2 ^ L.toNat = (d * 2 ^ L.toNat) * 2 ^ k := by ac_rfl
    _ ≤ (c * 2 ^ (-L).toNat) * 2 ^ k := Nat.mul_le_mul_right _ h1
    _ = c * 2 ^ (k + (-L).toNat) := by rw [Nat.pow_add]; ac_rfl
    _ = c * 2 ^ (((k : Int) - L).toNat + L.toNat) := by rw [e]
    _ = c * 2 ^ ((k : Int) - L).toNat * 2 ^ L.toNat := by rw [Nat.pow_add]; ac_rfl
theorem own_high {c d : Nat} (hc0 : 0 < c) (hd0 : 0 < d) {k : Nat} (hk : leading c d ≤ k) : c * 2 ^ ((k : Int) - leading c d).toNat ≤ 2 ^ (k + 1) * d := by
  obtain ⟨h1, h2⟩ := leading_spec hc0 hd0
  unfold Below at h2
  generalize leading c d = L at *
  have h2 := Nat.le_of_lt h2
  have e : ((k : Int) - L).toNat + (L + 1).toNat = k + 1 + (-(L + 1)).toNat := by omega
  refine Nat.le_of_mul_le_mul_right (c := 2 ^ (-(L + 1)).toNat) ?_ (Nat.two_pow_pos _)
  calc c * 2 ^ ((k : Int) - L).toNat * 2 ^ (-(L + 1)).toNat = (c * 2 ^ (-(L + 1)).toNat) * 2 ^ ((k : Int) - L).toNat := by ac_rfl
    _ ≤ (d * 2 ^ (L + 1).toNat) * 2 ^ ((k : Int) - L).toNat := Nat.mul_le_mul_right _ h2
    _ = d * 2 ^ (((k : Int) - L).toNat + (L + 1).toNat) := by rw [Nat.pow_add]; ac_rfl
    _ = d * 2 ^ (k + 1 + (-(L + 1)).toNat) := by rw [e]
    _ = 2 ^ (k + 1) * d * 2 ^ (-(L + 1)).toNat := by rw [Nat.pow_add]; ac_rfl
theorem own_quot {c d : Nat} {e : Int} (hc0 : 0 < c) (hd0 : 0 < d) (hc : c < 2 ^ 24) (hd : d < 2 ^ 24) (he1 : -80 ≤ e) (he2 : e ≤ 80) :
    round b32 (roundRatio b64 false c d e) = roundRatio b32 false c d e ∧ (∃ k q, roundRatio b32 false c d e = .fin false k q) ∧ ∃ k q, roundRatio b64 false c d e = .fin false k q := by
  obtain ⟨l1, l2⟩ := own_lead hc0 hd0 hc hd
  have lo := own_low hc0 hd0 (k := 52) (by omega)
  have hi := own_high hc0 hd0 (k := 52) (by omega)
  have q32 : quantum b32 c d e = leading c d + e - 23 := by
    unfold quantum
    have : b32.qmin = -149 := by decide
    have : ((b32.p : Nat) : Int) = 24 := by decide
    omega
  have q64 : quantum b64 c d e = leading c d + e - 52 := by
    unfold quantum
    have : b64.qmin = -1074 := by decide
    have : ((b64.p : Nat) : Int) = 53 := by decide
    omega
  generalize leading c d = L at *
  have u1 : unitsNum c e (L + e - 52) = (c * 2 ^ (23 - L).toNat) * 2 ^ 29 := by
    unfold unitsNum
    rw [show (e - (L + e - 52)).toNat = (23 - L).toNat + 29 by omega, Nat.pow_add, Nat.mul_assoc]
  have u2 : unitsDen d e (L + e - 52) = d := by
    unfold unitsDen
    rw [show (L + e - 52 - e).toNat = 0 by omega, Nat.pow_zero, Nat.mul_one]
  have u3 : unitsNum c e (L + e - 23) = c * 2 ^ (23 - L).toNat := by
    unfold unitsNum
    rw [show (e - (L + e - 23)).toNat = (23 - L).toNat by omega]
  have u4 : unitsDen d e (L + e - 23) = d := by
    unfold unitsDen
    rw [show (L + e - 23 - e).toNat = 0 by omega, Nat.pow_zero, Nat.mul_one]
  have lo' : 2 ^ 52 * d ≤ (c * 2 ^ (23 - L).toNat) * 2 ^ 29 := by
    rw [Nat.mul_assoc, ← Nat.pow_add, show (23 - L).toNat + 29 = (((52 : Nat) : Int) - L).toNat by omega]; exact lo
  have hi' : (c * 2 ^ (23 - L).toNat) * 2 ^ 29 ≤ 2 ^ 53 * d := by
    rw [Nat.mul_assoc, ← Nat.pow_add, show (23 - L).toNat + 29 = (((52 : Nat) : Int) - L).toNat by omega]; exact hi
  have y1 := nearest_ge hd0 lo'
  have y2 := nearest_le hd0 hi'
  have dbl := own_dbl (c * 2 ^ (23 - L).toNat) d hd0 (by omega)
  have r32 : roundRatio b32 false c d e = settle b32 false (nearest (c * 2 ^ (23 - L).toNat) d) (L + e - 23) := by
    unfold roundRatio roundAt
    rw [if_neg (by omega), q32, u3, u4]
  have r64 : roundRatio b64 false c d e = settle b64 false (nearest ((c * 2 ^ (23 - L).toNat) * 2 ^ 29) d) (L + e - 52) := by
    unfold roundRatio roundAt
    rw [if_neg (by omega), q64, u1, u2]
  rw [r32, r64, dbl]
  generalize nearest ((c * 2 ^ (23 - L).toNat) * 2 ^ 29) d = y at *
  have p32 : (2 : Nat) ^ b32.p = 2 ^ 24 := by decide
  have p64 : (2 : Nat) ^ b64.p = 2 ^ 53 := by decide
  have t32 : b32.tails = 2 ^ 23 := by decide
  have t64 : b64.tails = 2 ^ 52 := by decide
  have m32 : b32.qmax = 104 := by decide
  have m64 : b64.qmax = 971 := by decide
  have n32 : b32.qmin = -149 := by decide
  by_cases hy : y < 2 ^ 53
  · have s64 : settle b64 false y (L + e - 52) = .fin false y (L + e - 52) := by
      unfold settle bound
      rw [p64, if_pos hy, m64, if_pos (by omega)]
    have Q : quantum b32 y 1 (L + e - 52) = L + e - 23 := by
      have pp : ((b32.p : Nat) : Int) = 24 := by decide
      refine quantum_eq (by omega) (by omega) (by omega) ?_ (Or.inr ?_)
      · unfold Below
        rw [show (-(L + e - 23 - (L + e - 52) + (b32.p : Int))).toNat = 0 by omega, show (L + e - 23 - (L + e - 52) + (b32.p : Int)).toNat = 53 by omega]
        omega
      · unfold Below
        rw [show (-(L + e - 23 - (L + e - 52) + ((b32.p : Int) - 1))).toNat = 0 by omega, show (L + e - 23 - (L + e - 52) + ((b32.p : Int) - 1)).toNat = 52 by omega]
        omega
    have R : round b32 (.fin false y (L + e - 52)) = settle b32 false (nearest y (2 ^ 29)) (L + e - 23) := by
      show roundRatio b32 false y 1 (L + e - 52) = _
      unfold roundRatio roundAt
      rw [if_neg (by omega), Q]
      unfold unitsNum unitsDen
      rw [show (L + e - 52 - (L + e - 23)).toNat = 0 by omega, show (L + e - 23 - (L + e - 52)).toNat = 29 by omega, Nat.pow_zero, Nat.mul_one, Nat.one_mul]
    refine ⟨by rw [s64, R], ?_, _, _, s64⟩
    unfold settle bound
    rw [m32, if_pos (show L + e - 23 ≤ 104 by omega), if_pos (show L + e - 23 + 1 ≤ 104 by omega)]
    split
    · exact ⟨_, _, rfl⟩
    · exact ⟨_, _, rfl⟩
  · have hy : y = 2 ^ 53 := by omega
    subst hy
    have s64 : settle b64 false (2 ^ 53) (L + e - 52) = .fin false (2 ^ 52) (L + e - 52 + 1) := by
      unfold settle bound
      rw [p64, if_neg (by omega), m64, if_pos (by omega), t64]
    have s32 : settle b32 false (nearest (2 ^ 53) (2 ^ 29)) (L + e - 23) = .fin false (2 ^ 23) (L + e - 23 + 1) := by
      rw [show nearest (2 ^ 53) (2 ^ 29) = 2 ^ 24 by decide]
      unfold settle bound
      rw [p32, if_neg (by omega), m32, if_pos (by omega), t32]
    have R : round b32 (.fin false (2 ^ 52) (L + e - 52 + 1)) = .fin false (2 ^ 23) (L + e - 23 + 1) := by
      show roundRatio b32 false (2 ^ 52) 1 (L + e - 52 + 1) = _
      refine roundRatio_exact good_b32 (by omega) ⟨by rw [p32]; decide, by omega, by omega, Or.inr (by rw [t32]; exact Nat.le_refl _)⟩ ?_
      rw [show (L + e - 52 + 1 - (L + e - 23 + 1)).toNat = 0 by omega, show (L + e - 23 + 1 - (L + e - 52 + 1)).toNat = 29 by omega]
    exact ⟨by rw [s64, R, s32], ⟨_, _, s32⟩, _, _, s64⟩

def own_U (m : Nat) : Nat := nearest (m * 2 ^ (23 - m.log2)) (2 ^ (m.log2 - 23)) * 2 ^ m.log2
theorem own_Nb {m : Nat} (h0 : 0 < m) : 2 ^ 23 ≤ nearest (m * 2 ^ (23 - m.log2)) (2 ^ (m.log2 - 23)) ∧ nearest (m * 2 ^ (23 - m.log2)) (2 ^ (m.log2 - 23)) ≤ 2 ^ 24 := by
  have a1 : 2 ^ m.log2 ≤ m := Nat.log2_self_le (by omega)
  have a2 : m < 2 ^ (m.log2 + 1) := Nat.lt_log2_self
  generalize m.log2 = k at *
  constructor
  · refine nearest_ge (Nat.two_pow_pos _) ?_
    rw [← Nat.pow_add, show 23 + (k - 23) = k + (23 - k) by omega, Nat.pow_add]
    exact Nat.mul_le_mul_right _ a1
  · refine nearest_le (Nat.two_pow_pos _) ?_
    rw [← Nat.pow_add, show 24 + (k - 23) = k + 1 + (23 - k) by omega, Nat.pow_add]
    exact Nat.mul_le_mul_right _ (Nat.le_of_lt a2)
theorem own_near_mono {A A' B : Nat} (hB : 0 < B) (h : A ≤ A') : nearest A B ≤ nearest A' B := by
  have e1 := Nat.div_add_mod A B
  have e2 := Nat.div_add_mod A' B
  have r1 := Nat.mod_lt A hB
  have r2 := Nat.mod_lt A' hB
  have d := Nat.div_le_div_right (c := B) h
  unfold nearest
  generalize A / B = k at *
  generalize A' / B = k' at *
  generalize A % B = r at *
  generalize A' % B = r' at *
  by_cases hk : k = k'
  · subst hk
    have : r ≤ r' := by omega
    repeat' split
    all_goals omega
  · have hk : k + 1 ≤ k' := by omega
    repeat' split
    all_goals omega
theorem own_mono {m n : Nat} (h0 : 0 < m) (h : m ≤ n) : own_U m ≤ own_U n := by
  have a1 : 2 ^ m.log2 ≤ m := Nat.log2_self_le (by omega)
  have a2 : n < 2 ^ (n.log2 + 1) := Nat.lt_log2_self
  have hl : m.log2 ≤ n.log2 := by
    have : 2 ^ m.log2 < 2 ^ (n.log2 + 1) := by omega
    have := (Nat.pow_lt_pow_iff_right (by decide : 1 < 2)).mp this
    omega
  obtain ⟨b1, b2⟩ := own_Nb h0
  obtain ⟨b3, b4⟩ := own_Nb (show 0 < n by omega)
  unfold own_U
  by_cases he : m.log2 = n.log2
  · rw [he]
    exact Nat.mul_le_mul_right _ (own_near_mono (Nat.two_pow_pos _) (Nat.mul_le_mul_right _ h))
  · calc nearest (m * 2 ^ (23 - m.log2)) (2 ^ (m.log2 - 23)) * 2 ^ m.log2 ≤ 2 ^ 24 * 2 ^ m.log2 := Nat.mul_le_mul_right _ b2
      _ = 2 ^ 23 * 2 ^ (m.log2 + 1) := by rw [Nat.pow_succ (n := 2) (m := m.log2)]; omega
      _ ≤ 2 ^ 23 * 2 ^ n.log2 := Nat.mul_le_mul_left _ (Nat.pow_le_pow_right (by decide) (by omega))
      _ ≤ nearest (n * 2 ^ (23 - n.log2)) (2 ^ (n.log2 - 23)) * 2 ^ n.log2 := Nat.mul_le_mul_right _ b3
theorem own_i2f {m : Nat} (h0 : 0 < m) (h1 : m < 2 ^ 31) : ∃ (c : Nat) (q : Int), roundRatio b32 false m 1 0 = .fin false c q ∧ 2 ^ 23 ≤ c ∧ c < 2 ^ 24 ∧ -23 ≤ q ∧ q ≤ 8 ∧ c * 2 ^ (q + 23).toNat = own_U m := by
  have a1 : 2 ^ m.log2 ≤ m := Nat.log2_self_le (by omega)
  have a2 : m < 2 ^ (m.log2 + 1) := Nat.lt_log2_self
  have k31 : m.log2 < 31 := (Nat.pow_lt_pow_iff_right (by decide : 1 < 2)).mp (Nat.lt_of_le_of_lt a1 h1)
  have pp : ((b32.p : Nat) : Int) = 24 := by decide
  have n32 : b32.qmin = -149 := by decide
  have m32 : b32.qmax = 104 := by decide
  have p32 : (2 : Nat) ^ b32.p = 2 ^ 24 := by decide
  have t32 : b32.tails = 2 ^ 23 := by decide
  obtain ⟨b1, b2⟩ := own_Nb h0
  have Q : quantum b32 m 1 0 = (m.log2 : Int) - 23 := by
    refine quantum_eq h0 (by omega) (by omega) ?_ (Or.inr ?_)
    · unfold Below
      rw [show (-((m.log2 : Int) - 23 - 0 + (b32.p : Int))).toNat = 0 by omega, show ((m.log2 : Int) - 23 - 0 + (b32.p : Int)).toNat = m.log2 + 1 by omega]
      omega
    · unfold Below
      rw [show (-((m.log2 : Int) - 23 - 0 + ((b32.p : Int) - 1))).toNat = 0 by omega, show ((m.log2 : Int) - 23 - 0 + ((b32.p : Int) - 1)).toNat = m.log2 by omega]
      omega
  have R : roundRatio b32 false m 1 0 = settle b32 false (nearest (m * 2 ^ (23 - m.log2)) (2 ^ (m.log2 - 23))) ((m.log2 : Int) - 23) := by
    unfold roundRatio roundAt
    rw [if_neg (by omega), Q]
    unfold unitsNum unitsDen
    rw [show (0 - ((m.log2 : Int) - 23)).toNat = 23 - m.log2 by omega, show ((m.log2 : Int) - 23 - 0).toNat = m.log2 - 23 by omega, Nat.one_mul]
  rw [R]
  have hU : own_U m = nearest (m * 2 ^ (23 - m.log2)) (2 ^ (m.log2 - 23)) * 2 ^ m.log2 := rfl
  rw [hU]
  generalize nearest (m * 2 ^ (23 - m.log2)) (2 ^ (m.log2 - 23)) = N at *
  unfold settle bound
  rw [p32, m32, if_pos (show (m.log2 : Int) - 23 ≤ 104 by omega), if_pos (show (m.log2 : Int) - 23 + 1 ≤ 104 by omega), t32]
  by_cases hN : N < 2 ^ 24
  · rw [if_pos hN]
    exact ⟨N, _, rfl, b1, hN, by omega, by omega, by rw [show ((m.log2 : Int) - 23 + 23).toNat = m.log2 by omega]⟩
  · rw [if_neg hN]
    have hN : N = 2 ^ 24 := by omega
    exact ⟨2 ^ 23, _, rfl, Nat.le_refl _, by decide, by omega, by omega, by rw [show ((m.log2 : Int) - 23 + 1 + 23).toNat = m.log2 + 1 by omega, hN, Nat.pow_succ]; omega⟩

theorem own_val_i2f (m : Int32) (h0 : 0 < m.toInt) : ∃ (c : Nat) (q : Int), val32 (i2f m) = .fin false c q ∧ 2 ^ 23 ≤ c ∧ c < 2 ^ 24 ∧ -23 ≤ q ∧ q ≤ 8 ∧ c * 2 ^ (q + 23).toNat = own_U m.toInt.natAbs := by
  have h1 := m.toInt_lt
  obtain ⟨c, q, e, r⟩ := own_i2f (m := m.toInt.natAbs) (by omega) (by omega)
  refine ⟨c, q, ?_, r⟩
  rw [val32_i2f]
  show roundRatio b32 (decide (m.toInt < 0)) m.toInt.natAbs 1 0 = _
  rw [show decide (m.toInt < 0) = false from decide_eq_false (by omega)]
  exact e
theorem own_congr {f : Fmt} {c c' d d' : Nat} {q q' r r' : Int} (hd : 0 < d) (hd' : 0 < d') (h1 : -1074 ≤ q) (h2 : -1074 ≤ q') (h3 : -1074 ≤ r) (h4 : -1074 ≤ r') (e1 : inUnits c' q' (-1074) = inUnits c q (-1074)) (e2 : inUnits d' r' (-1074) = inUnits d r (-1074)) :
    roundRatio f false c' d' (q' - r') = roundRatio f false c d (q - r) := by
  unfold inUnits at e1 e2
  refine roundRatio_congr hd' hd ?_
  generalize hx : (q - (-1074)).toNat = x at *
  generalize hx' : (q' - (-1074)).toNat = x' at *
  generalize hy : (r - (-1074)).toNat = y at *
  generalize hy' : (r' - (-1074)).toNat = y' at *
  generalize hα : (q' - r' - (q - r)).toNat = α at *
  generalize hβ : (q - r - (q' - r')).toNat = β at *
  obtain ⟨M, m1, m2⟩ : ∃ M, x' + y = M + α ∧ x + y' = M + β := ⟨min (x' + y) (x + y'), by omega, by omega⟩
  refine Nat.eq_of_mul_eq_mul_right (Nat.two_pow_pos M) ?_
  calc c' * d * 2 ^ α * 2 ^ M = (c' * 2 ^ x') * (d * 2 ^ y) := by
        rw [Nat.mul_assoc (c' * d), ← Nat.pow_add, Nat.add_comm α M, ← m1, Nat.pow_add]; ac_rfl
    _ = (c * 2 ^ x) * (d' * 2 ^ y') := by rw [e1, e2]
    _ = c * d' * 2 ^ β * 2 ^ M := by
        rw [Nat.mul_assoc (c * d'), ← Nat.pow_add, Nat.add_comm β M, ← m2, Nat.pow_add]; ac_rfl
theorem own_pos {c c' : Nat} {q q' e : Int} (h : inUnits c' q' e = inUnits c q e) (hc : 0 < c) : 0 < c' := by
  unfold inUnits at h
  have : 0 < c * 2 ^ (q - e).toNat := Nat.mul_pos hc (Nat.two_pow_pos _)
  rw [← h] at this
  exact Nat.pos_of_mul_pos_right this
theorem own_core (m n : Int32) (h0 : 0 < m.toInt) (h1 : m.toInt ≤ n.toInt) :
    val32 (fdiv (i2f m) (i2f n)) ≠ .nan ∧ val64 (f2d (i2f m)) ≠ .nan ∧ val64 (f2d (i2f n)) ≠ .nan ∧ val64 (ddiv (f2d (i2f m)) (f2d (i2f n))) ≠ .nan ∧
    d2f (ddiv (f2d (i2f m)) (f2d (i2f n))) = fdiv (i2f m) (i2f n) ∧ (∃ k q, val32 (fdiv (i2f m) (i2f n)) = .fin false k q) ∧ zmag b32 (val32 (fdiv (i2f m) (i2f n))) ≤ zmag b32 (.fin false (2 ^ 23) (-23)) := by
  obtain ⟨c, q, v1, c1, c2, q1, q2, u1⟩ := own_val_i2f m h0
  obtain ⟨d, r, v2, d1, d2, r1, r2, u2⟩ := own_val_i2f n (by omega)
  have le := own_mono (m := m.toInt.natAbs) (n := n.toInt.natAbs) (by omega) (by omega)
  rw [← u1, ← u2] at le
  have n64 : b64.qmin = -1074 := by decide
  have m64 : b64.qmax = 971 := by decide
  have p64 : (2 : Nat) ^ b64.p = 2 ^ 53 := by decide
  have n32 : b32.qmin = -149 := by decide
  obtain ⟨c', q', w1, x1⟩ := round_exact good_b64 false (c := c) (q := q) (by omega) (by omega) (by omega)
  obtain ⟨d', r', w2, x2⟩ := round_exact good_b64 false (c := d) (q := r) (by omega) (by omega) (by omega)
  have g1 : val64 (f2d (i2f m)) = .fin false c' q' := by rw [val64_f2d, v1, w1]
  have g2 : val64 (f2d (i2f n)) = .fin false d' r' := by rw [val64_f2d, v2, w2]
  have f1 := val64_fits (f2d (i2f m))
  have f2 := val64_fits (f2d (i2f n))
  rw [g1] at f1
  rw [g2] at f2
  rw [n64] at x1 x2
  have k1 : -1074 ≤ q' := by have := f1.2.1; omega
  have k2 : -1074 ≤ r' := by have := f2.2.1; omega
  have dp : 0 < d' := own_pos x2 (by omega)
  have e32 : val32 (fdiv (i2f m) (i2f n)) = roundRatio b32 false c d (q - r) := by
    rw [val32_fdiv, v1, v2]
    show (if d = 0 then _ else roundRatio b32 (false != false) c d (q - r)) = _
    rw [if_neg (by omega)]; rfl
  have e64 : val64 (ddiv (f2d (i2f m)) (f2d (i2f n))) = roundRatio b64 false c d (q - r) := by
    rw [val64_ddiv, g1, g2]
    show (if d' = 0 then _ else roundRatio b64 (false != false) c' d' (q' - r')) = _
    rw [if_neg (by omega)]
    exact own_congr (by omega) dp (by omega) k1 (by omega) k2 x1 x2
  obtain ⟨z1, ⟨k, s, z2⟩, k', s', z3⟩ := own_quot (c := c) (d := d) (e := q - r) (by omega) (by omega) c2 d2 (by omega) (by omega)
  refine ⟨by rw [e32, z2]; exact Datum.noConfusion, by rw [g1]; exact Datum.noConfusion, by rw [g2]; exact Datum.noConfusion, by rw [e64, z3]; exact Datum.noConfusion, ?_, ⟨k, s, by rw [e32, z2]⟩, ?_⟩
  · refine val32_inj ?_ ?_
    · rw [val32_d2f, e64, z1, z2]; exact Datum.noConfusion
    · rw [val32_d2f, e64, z1, e32]
  · rw [e32]
    refine zmag_roundRatio_le good_b32 (e0 := -149) (by omega) ⟨by decide, by decide, by decide, Or.inr (by decide)⟩ Datum.noConfusion (by omega) (by omega) ?_
    show c * 2 ^ (q - r - (-149)).toNat ≤ (2 ^ 23 * 2 ^ (-23 - b32.qmin).toNat) * 2 ^ (b32.qmin - (-149)).toNat * d
    rw [n32, show (-23 - (-149 : Int)).toNat = 126 by decide, show (-149 - (-149 : Int)).toNat = 0 by decide, Nat.pow_zero, Nat.mul_one, ← Nat.pow_add]
    rw [show (q - r - (-149)).toNat = (q + 23).toNat + (126 - r).toNat by omega, Nat.pow_add, ← Nat.mul_assoc]
    refine Nat.le_trans (Nat.mul_le_mul_right _ le) ?_
    rw [Nat.mul_assoc, ← Nat.pow_add, show (r + 23).toNat + (126 - r).toNat = 23 + 126 by omega, Nat.mul_comm]
    exact Nat.le_refl _
end Jvm.FP.Core
namespace Jvm.Pilot.@@N@@
open Jvm Jvm.ClassFile Sem Op Lib Jvm.Free Jvm.Stand Jvm.LawKit Jvm.RoadKit Bundle Jvm.Pilot.@@N@@.Jvm.D
theorem own_f0 : FP.Core.val32 FP.fconst0 = .fin false 0 FP.Core.b32.qmin := by decide +kernel
theorem own_f1 : FP.Core.val32 FP.fconst1 = .fin false (2 ^ 23) (-23) := by decide +kernel
theorem own_d0 : FP.Core.val64 FP.dconst0 = .fin false 0 FP.Core.b64.qmin := by decide +kernel
open Jvm.Free.Fl in
theorem own_coord (m n : Int32) (h0 : 0 ≤ m.toInt) (hn : 1 ≤ n.toInt) (h1 : m.toInt ≤ n.toInt) :
    NoNaN32 (FP.fdiv (FP.i2f m) (FP.i2f n)) ∧ NoNaN64 (FP.f2d (FP.i2f m)) ∧ NoNaN64 (FP.f2d (FP.i2f n)) ∧ NoNaN64 (FP.ddiv (FP.f2d (FP.i2f m)) (FP.f2d (FP.i2f n))) ∧
    NoNaN32 (FP.d2f (FP.ddiv (FP.f2d (FP.i2f m)) (FP.f2d (FP.i2f n)))) ∧ FP.fdiv (FP.i2f m) (FP.i2f n) = FP.d2f (FP.ddiv (FP.f2d (FP.i2f m)) (FP.f2d (FP.i2f n))) ∧
    (m = 0 → FP.fdiv (FP.i2f m) (FP.i2f n) = FP.fconst0) ∧ (m = n → FP.fdiv (FP.i2f m) (FP.i2f n) = FP.fconst1) ∧
    (∃ k q, FP.Core.val32 (FP.fdiv (FP.i2f m) (FP.i2f n)) = .fin false k q) ∧ FP.Core.zmag FP.Core.b32 (FP.Core.val32 (FP.fdiv (FP.i2f m) (FP.i2f n))) ≤ FP.Core.zmag FP.Core.b32 (.fin false (2 ^ 23) (-23)) := by
  have F : ∀ x : Int32, FP.f2d (FP.i2f x) = FP.Core.f2d (FP.i2f x) := fun x => if_neg (by rw [noNaN32_no.mp (i2f_fin x).noNaN]; exact Bool.noConfusion)
  by_cases hz : m = 0
  · subst hz
    obtain ⟨d, r, v2, d1, d2, r1, r2, u2⟩ := FP.Core.own_val_i2f n (by omega)
    have z0 : FP.i2f 0 = FP.fconst0 := by decide +kernel
    have z1 : FP.f2d FP.fconst0 = FP.dconst0 := by decide +kernel
    have z2 : FP.d2f FP.dconst0 = FP.fconst0 := by decide +kernel
    have w : NoNaN32 FP.fconst0 := val32_no.mpr (by rw [own_f0]; exact FP.Core.Datum.noConfusion)
    have w' : NoNaN64 FP.dconst0 := val64_no.mpr (by rw [own_d0]; exact FP.Core.Datum.noConfusion)
    have e1 : FP.fdiv FP.fconst0 (FP.i2f n) = FP.fconst0 := by
      refine (FP.Core.val32_inj (val32_no.mp w) ?_).symm
      show FP.Core.val32 FP.fconst0 = FP.Core.val32 (FP.Core.fdiv FP.fconst0 (FP.Core.i2f n))
      rw [FP.Core.val32_fdiv, v2, own_f0]
      show _ = (if d = 0 then _ else FP.Core.roundRatio FP.Core.b32 (false != false) 0 d _)
      rw [if_neg (by omega)]; rfl
    have p64 : (2 : Nat) ^ FP.Core.b64.p = 2 ^ 53 := by decide
    have n64 : FP.Core.b64.qmin = -1074 := by decide
    have m64 : FP.Core.b64.qmax = 971 := by decide
    obtain ⟨d', r', w2, x2⟩ := FP.Core.round_exact FP.Core.good_b64 false (c := d) (q := r) (by omega) (by omega) (by omega)
    have dp : 0 < d' := FP.Core.own_pos x2 (by omega)
    have g2 : FP.Core.val64 (FP.f2d (FP.i2f n)) = .fin false d' r' := by rw [F, FP.Core.val64_f2d, v2, w2]
    have e2 : FP.ddiv FP.dconst0 (FP.f2d (FP.i2f n)) = FP.dconst0 := by
      refine (FP.Core.val64_inj (val64_no.mp w') ?_).symm
      show FP.Core.val64 FP.dconst0 = FP.Core.val64 (FP.Core.ddiv FP.dconst0 (FP.f2d (FP.i2f n)))
      rw [FP.Core.val64_ddiv, g2, own_d0]
      show _ = (if d' = 0 then _ else FP.Core.roundRatio FP.Core.b64 (false != false) 0 d' _)
      rw [if_neg (by omega)]; rfl
    rw [z0, z1, e1, e2, z2]
    refine ⟨w, w', val64_no.mpr (by rw [g2]; exact FP.Core.Datum.noConfusion), w', w, rfl, fun _ => rfl, fun q => ?_, ⟨_, _, own_f0⟩, ?_⟩
    · rw [← q] at hn
      exact absurd hn (by decide)
    · rw [own_f0]
      decide
  · have hp : 0 < m.toInt := by
      have : m.toInt ≠ 0 := fun q => hz (Int32.toInt_inj.mp q)
      omega
    obtain ⟨a1, a2, a3, a4, a5, a6, a7⟩ := FP.Core.own_core m n hp h1
    rw [← F, ← F] at a4
    rw [← F] at a2
    rw [← F] at a3
    have D : FP.d2f (FP.ddiv (FP.f2d (FP.i2f m)) (FP.f2d (FP.i2f n))) = FP.Core.d2f (FP.ddiv (FP.f2d (FP.i2f m)) (FP.f2d (FP.i2f n))) := if_neg (by rw [noNaN64_no.mp (val64_no.mpr a4)]; exact Bool.noConfusion)
    have e : FP.fdiv (FP.i2f m) (FP.i2f n) = FP.d2f (FP.ddiv (FP.f2d (FP.i2f m)) (FP.f2d (FP.i2f n))) := by rw [D, F, F]; exact a5.symm
    refine ⟨val32_no.mpr a1, val64_no.mpr a2, val64_no.mpr a3, val64_no.mpr a4, e ▸ val32_no.mpr a1, e, fun q => absurd q hz, fun q => ?_, a6, a7⟩
    subst q
    obtain ⟨c, q, v1, c1, c2, q1, q2, u1⟩ := FP.Core.own_val_i2f m hp
    refine FP.Core.val32_inj a1 ?_
    show FP.Core.val32 (FP.Core.fdiv (FP.Core.i2f m) (FP.Core.i2f m)) = FP.Core.val32 FP.fconst1
    rw [FP.Core.val32_fdiv, v1, own_f1]
    show (if c = 0 then _ else FP.Core.roundRatio FP.Core.b32 (false != false) c c (q - q)) = _
    rw [if_neg (by omega)]
    refine FP.Core.roundRatio_exact FP.Core.good_b32 (by omega) ⟨by decide, by decide, by decide, Or.inr (by decide)⟩ ?_
    rw [show (q - q - -23).toNat = 23 by omega, show (-23 - (q - q)).toNat = 0 by omega, Nat.pow_zero, Nat.mul_one, Nat.mul_comm]
open Jvm.Free.Fl in
theorem own_ge0 {r : UInt32} {k : Nat} {q : Int} (h : FP.Core.val32 r = .fin false k q) : ¬ (0 : Int32) < cmpValue (FP.fcmp FP.fconst0 r) .g := by
  have nn : FP.Core.val32 r ≠ .nan := by rw [h]; exact FP.Core.Datum.noConfusion
  have e : FP.fcmp FP.fconst0 r = some (compare (FP.Core.zval FP.Core.b32 (FP.Core.val32 FP.fconst0)) (FP.Core.zval FP.Core.b32 (FP.Core.val32 r))) :=
    FP.Core.order_zval FP.Core.good_b32 (FP.Core.val32_fits _) (FP.Core.val32_fits _) (show FP.Core.val32 FP.fconst0 ≠ .nan by rw [own_f0]; exact FP.Core.Datum.noConfusion) nn
  rw [e, h, own_f0]
  have z1 : FP.Core.zval FP.Core.b32 (.fin false 0 FP.Core.b32.qmin) = 0 := by decide
  have z2 : 0 ≤ FP.Core.zval FP.Core.b32 (.fin false k q) := Int.natCast_nonneg _
  rw [z1]
  generalize FP.Core.zval FP.Core.b32 (.fin false k q) = z at *
  have : compare 0 z = .lt ∨ compare 0 z = .eq := by
    rcases Int.lt_or_eq_of_le z2 with p | p
    · exact Or.inl (by simp [compare, compareOfLessAndEq, p])
    · exact Or.inr (by rw [← p]; decide)
  rcases this with p | p <;> rw [p] <;> decide
open Jvm.Free.Fl in
theorem own_le1 {r : UInt32} {k : Nat} {q : Int} (h : FP.Core.val32 r = .fin false k q) (hz : FP.Core.zmag FP.Core.b32 (FP.Core.val32 r) ≤ FP.Core.zmag FP.Core.b32 (.fin false (2 ^ 23) (-23))) : ¬ (0 : Int32) < cmpValue (FP.fcmp r FP.fconst1) .g := by
  have nn : FP.Core.val32 r ≠ .nan := by rw [h]; exact FP.Core.Datum.noConfusion
  have e : FP.fcmp r FP.fconst1 = some (compare (FP.Core.zval FP.Core.b32 (FP.Core.val32 r)) (FP.Core.zval FP.Core.b32 (FP.Core.val32 FP.fconst1))) :=
    FP.Core.order_zval FP.Core.good_b32 (FP.Core.val32_fits _) (FP.Core.val32_fits _) nn (show FP.Core.val32 FP.fconst1 ≠ .nan by rw [own_f1]; exact FP.Core.Datum.noConfusion)
  rw [e, h, own_f1]
  rw [h] at hz
  have z2 : FP.Core.zval FP.Core.b32 (.fin false k q) ≤ FP.Core.zval FP.Core.b32 (.fin false (2 ^ 23) (-23)) := Int.ofNat_le.mpr hz
  generalize FP.Core.zval FP.Core.b32 (.fin false k q) = z at *
  generalize FP.Core.zval FP.Core.b32 (.fin false (2 ^ 23) (-23)) = y at *
  have : compare z y = .lt ∨ compare z y = .eq := by
    rcases Int.lt_or_eq_of_le z2 with p | p
    · exact Or.inl (by simp [compare, compareOfLessAndEq, p])
    · exact Or.inr (by rw [p]; simp [compare, compareOfLessAndEq])
  rcases this with p | p <;> rw [p] <;> decide
theorem d3_0 : decode jdk_29_method_65_code 0 = .ok (.iload_n 0, 1) := by decide +kernel
theorem d3_1 : decode jdk_29_method_65_code 1 = .ok (.iload_n 1, 1) := by decide +kernel
theorem d3_2 : decode jdk_29_method_65_code 2 = .ok (.if_icmp .lt 7, 3) := by decide +kernel
theorem d3_5 : decode jdk_29_method_65_code 5 = .ok (.iload_n 0, 1) := by decide +kernel
theorem d3_6 : decode jdk_29_method_65_code 6 = .ok (.goto 4, 3) := by decide +kernel
theorem d3_9 : decode jdk_29_method_65_code 9 = .ok (.iload_n 1, 1) := by decide +kernel
theorem d3_10 : decode jdk_29_method_65_code 10 = .ok (.ireturn, 1) := by decide +kernel
theorem ef3 (m : MethodId) (p0 : Int32) (p1 : Int32) : entryFrame m #[(.int p0), (.int p1)] 2 = mkF m 0 #[.val (.int p0), .val (.int p1)] [] := by first | (simp [entryFrame, mkF, argsToLocals, Value.category]; done) | rfl
def maxF (p0 : Int32) (p1 : Int32) : Int32 := (if p0 < p1 then p1 else p0)
def Q3 (Z : State) (p0 : Int32) (p1 : Int32) (h0 : Heap) (n0 : Nat) (v : Option Value) (h : Heap) (L : List Loc) : Prop := v = some (.int (maxF p0 p1)) ∧ Fr n0 L ∧ h = h0
set_option maxRecDepth 65536 in
set_option maxHeartbeats 40000000 in
theorem rm3 (l : Launch) (Z : State) (a0 : Array Value) (hw : ∀ d ∈ tables_1, d.before a0 Z = true) (ws : List Jvm.Cond) (p0 : Int32) (p1 : Int32) (h0 : Heap) (n0 : Nat) (Z0 : n0 ≤ h0.size) :
    MetFree l (⟨"java/lang/Math", "max", "(II)I"⟩ : MethodName) (head1 (Jvm.Cond.code (⟨"java/lang/Math", "max", "(II)I"⟩ : MethodName) jdk_29_method_65_code 2 (some .int) :: ws) ({ frames := 0, cells := 0, slots := 0, locals := 0 } : Room)) (fun a U => a = #[(.int p0), (.int p1)] ∧ Z.Warmed39 U.vm ∧ U.heap = h0) (fun _ _ _ _ _ => True) (fun _ U o U' => ∃ v L, o = .returned v ∧ Q3 Z p0 p1 h0 n0 v U'.heap L ∧ FrameEnd U o U' L ({ frames := 0, cells := 0, slots := 0, locals := 0 } : Room).cells ({ frames := 0, cells := 0, slots := 0, locals := 0 } : Room).slots) := by
  refine MetFree.of_bodySF (Jvm.Free.JP.mathPlain rfl (by decide +kernel)) hisR ?_
  intro p e s m args below meth c s₁ Bd hml0 hP hK
  obtain ⟨rfl, hZ, hh⟩ := hP
  have hx := Bd.exec
  have hby := Bd.bytes
  have hml : c.maxLocals = 2 := hml0
  have hown : s.vm.findClass "java/lang/Math" = some m.cls := findClass_of_methodNamed Bd.named
  have hnm := (name_of_methodNamed Bd.named Bd.method).1
  have X0 : Stand p l e ({ frames := 0, cells := 0, slots := 0, locals := 0 } : Room) s m #[(.int p0), (.int p1)] below meth c s₁ [] 0 0 := Stand.of_body Bd
  have e0 : s₁.heap = h0 := by rw [← hh, Bd.state]; rfl
  have N0 := Fr.nil n0
  refine own_fw (A := s₁.setTop (mkF m 0 #[.val (.int p0), .val (.int p1)] [])) (fun t k => castTop (ef3 m p0 p1) k) ?_
  refine own_fw (A := s₁.setTop (mkF m 2 #[.val (.int p0), .val (.int p1)] [(.int p1), (.int p0)])) (fun t k => ?_) ?_
  · show Steps p.tables e below (s₁.setTop (mkF m 0 #[.val (.int p0), .val (.int p1)] [])) t
    refine XS.iloadN X0.here hx rfl (hb hby d3_0) rfl ?_
    show Steps p.tables e below (s₁.setTop (mkF m 1 #[.val (.int p0), .val (.int p1)] [(.int p0)])) t
    refine XS.iloadN X0.here hx rfl (hb hby d3_1) rfl ?_
    exact k
  by_cases hc3_1 : p0 < p1
  · refine own_fw (A := s₁.setTop (mkF m 9 #[.val (.int p0), .val (.int p1)] [])) (fun t k => ?_) ?_
    · show Steps p.tables e below (s₁.setTop (mkF m 2 #[.val (.int p0), .val (.int p1)] [(.int p1), (.int p0)])) t
      refine XS.icmpYes X0.here hx rfl (pc0 := 2) (pc' := 9) rfl (hb hby d3_2) rfl (tlt hc3_1).1 (by decide) (by decide) ?_
      exact k
    refine own_fw (A := s₁.setTop (mkF m 10 #[.val (.int p0), .val (.int p1)] [(.int p1)])) (fun t k => ?_) ?_
    · show Steps p.tables e below (s₁.setTop (mkF m 9 #[.val (.int p0), .val (.int p1)] [])) t
      refine XS.iloadN X0.here hx rfl (hb hby d3_9) rfl ?_
      exact k
    obtain ⟨fs, hr, hrun, hended, hW, hsame⟩ := X0.leave (v := some (.int p1)) (fun h => by rw [Bd.returns] at h; cases h)
    refine ⟨_, _, retI X0 hx Bd.returns (hb hby d3_10) hr, hrun, hended, _, _, rfl, ⟨(by rw [maxF, if_pos hc3_1]), N0, ?_⟩, ⟨_, rfl⟩, hW, hsame.mono (by decide) (by decide)⟩
    exact e0
  · refine own_fw (A := s₁.setTop (mkF m 5 #[.val (.int p0), .val (.int p1)] [])) (fun t k => ?_) ?_
    · show Steps p.tables e below (s₁.setTop (mkF m 2 #[.val (.int p0), .val (.int p1)] [(.int p1), (.int p0)])) t
      refine XS.icmpNo X0.here hx rfl (hb hby d3_2) rfl (flt hc3_1).1 ?_
      exact k
    refine own_fw (A := s₁.setTop (mkF m 10 #[.val (.int p0), .val (.int p1)] [(.int p0)])) (fun t k => ?_) ?_
    · show Steps p.tables e below (s₁.setTop (mkF m 5 #[.val (.int p0), .val (.int p1)] [])) t
      refine XS.iloadN X0.here hx rfl (hb hby d3_5) rfl ?_
      show Steps p.tables e below (s₁.setTop (mkF m 6 #[.val (.int p0), .val (.int p1)] [(.int p0)])) t
      refine XS.goto X0.here hx rfl (pc0 := 6) (pc' := 10) rfl (hb hby d3_6) (by decide) (by decide) ?_
      exact k
    obtain ⟨fs, hr, hrun, hended, hW, hsame⟩ := X0.leave (v := some (.int p0)) (fun h => by rw [Bd.returns] at h; cases h)
    refine ⟨_, _, retI X0 hx Bd.returns (hb hby d3_10) hr, hrun, hended, _, _, rfl, ⟨(by rw [maxF, if_neg hc3_1]), N0, ?_⟩, ⟨_, rfl⟩, hW, hsame.mono (by decide) (by decide)⟩
    exact e0
theorem d1_0 : decode prog_10_method_2_code 0 = .ok (.aload_n 0, 1) := by decide +kernel
theorem d1_1 : decode prog_10_method_2_code 1 = .ok (.invokespecial 7, 3) := by decide +kernel
theorem d1_4 : decode prog_10_method_2_code 4 = .ok (.aload_n 0, 1) := by decide +kernel
theorem d1_5 : decode prog_10_method_2_code 5 = .ok (.iload_n 1, 1) := by decide +kernel
theorem d1_6 : decode prog_10_method_2_code 6 = .ok (.putfield 12, 3) := by decide +kernel
theorem d1_9 : decode prog_10_method_2_code 9 = .ok (.return_, 1) := by decide +kernel
theorem pn1 : plainName "com/example/terms_to_scores/termstoscores/classic/ClassicModel" = true := by first | (simp [plainName, overriddenIn]; done) | decide +kernel
theorem ef1 (m : MethodId) (r0 : Addr) (p1 : Int32) : entryFrame m #[(.ref r0), (.int p1)] 2 = mkF m 0 #[.val (.ref r0), .val (.int p1)] [] := by first | (simp [entryFrame, mkF, argsToLocals, Value.category]; done) | rfl
def Q1 (Z : State) (r0 : Addr) (h0 : Heap) (n0 : Nat) (w : Option Value) (h : Heap) (L : List Loc) : Prop := w = none ∧ Fr n0 L ∧ Keep h0 h [r0] ∧ Exa Z h r0 "com/example/terms_to_scores/termstoscores/classic/ClassicModel"
set_option maxRecDepth 65536 in
set_option maxHeartbeats 40000000 in
theorem rm1 (l : Launch) (Z : State) (a0 : Array Value) (hw : ∀ d ∈ tables_1, d.before a0 Z = true) (ws : List Jvm.Cond) (r0 : Addr) (p1 : Int32) (h0 : Heap) (n0 : Nat) (Z0 : n0 ≤ h0.size) (E_r0 : Exa Z h0 r0 "com/example/terms_to_scores/termstoscores/classic/ClassicModel") (F_d : Fld Z h0 r0 "com/example/terms_to_scores/termstoscores/classic/ClassicModel" "discountOverlaps" "Z" (.int (0 : Int32))) (g_r0 : n0 ≤ r0) :
    MetFree l (⟨"com/example/terms_to_scores/termstoscores/classic/ClassicModel", "<init>", "(Z)V"⟩ : MethodName) (head1 (Jvm.Cond.code (⟨"com/example/terms_to_scores/termstoscores/classic/ClassicModel", "<init>", "(Z)V"⟩ : MethodName) prog_10_method_2_code 2 none :: ws) ({ frames := 1, cells := 0, slots := 0, locals := 12 } : Room)) (fun a U => a = #[(.ref r0), (.int p1)] ∧ Z.Warmed39 U.vm ∧ U.heap = h0) (fun _ _ _ _ _ => True) (fun _ U o U' => ∃ v L, o = .returned v ∧ Q1 Z r0 h0 n0 v U'.heap L ∧ FrameEnd U o U' L ({ frames := 1, cells := 0, slots := 0, locals := 12 } : Room).cells ({ frames := 1, cells := 0, slots := 0, locals := 12 } : Room).slots) := by
  refine MetFree.of_bodySF (plainFor_of_name pn1) hisR ?_
  intro p e s m args below meth c s₁ Bd hml0 hP hK
  obtain ⟨rfl, hZ, hh⟩ := hP
  have hx := Bd.exec
  have hby := Bd.bytes
  have hml : c.maxLocals = 2 := hml0
  have hown : s.vm.findClass "com/example/terms_to_scores/termstoscores/classic/ClassicModel" = some m.cls := findClass_of_methodNamed Bd.named
  have hnm := (name_of_methodNamed Bd.named Bd.method).1
  have X0 : Stand p l e ({ frames := 1, cells := 0, slots := 0, locals := 12 } : Room) s m #[(.ref r0), (.int p1)] below meth c s₁ [] 0 0 := Stand.of_body Bd
  have e0 : s₁.heap = h0 := by rw [← hh, Bd.state]; rfl
  have N0 := Fr.nil n0
  refine own_fw (A := s₁.setTop (mkF m 0 #[.val (.ref r0), .val (.int p1)] [])) (fun t k => castTop (ef1 m r0 p1) k) ?_
  refine own_fw (A := s₁.setTop (mkF m 1 #[.val (.ref r0), .val (.int p1)] [(.ref r0)])) (fun t k => ?_) ?_
  · show Steps p.tables e below (s₁.setTop (mkF m 0 #[.val (.ref r0), .val (.int p1)] [])) t
    refine XS.aloadN X0.here hx rfl (hb hby d1_0) rfl rfl ?_
    exact k
  obtain ⟨T1_1, X1_1, e1_1, st1_1⟩ := initO X0 hx hZ hown (hw _ (List.mem_of_getElem? (i := 6) rfl)) (hw _ (List.mem_of_getElem? (i := 7) rfl)) (hw _ (List.mem_of_getElem? (i := 8) rfl)) e0 (g := (mkF m 1 #[.val (.ref r0), .val (.int p1)] [(.ref r0)])) rfl (by rw [hml]; rfl) rfl (hb hby d1_1) (by decide) (W := 0) (by show 2 * 0 + _ ≤ _; exact Nat.le_of_eq rfl) (by decide)
  refine own_fw st1_1 ?_
  refine own_fw (A := T1_1.setTop (mkF m 6 #[.val (.ref r0), .val (.int p1)] [(.int p1), (.ref r0)])) (fun t k => ?_) ?_
  · show Steps p.tables e below (T1_1.setTop (mkF m 4 #[.val (.ref r0), .val (.int p1)] [])) t
    refine XS.aloadN X1_1.here hx rfl (hb hby d1_4) rfl rfl ?_
    show Steps p.tables e below (T1_1.setTop (mkF m 5 #[.val (.ref r0), .val (.int p1)] [(.ref r0)])) t
    refine XS.iloadN X1_1.here hx rfl (hb hby d1_5) rfl ?_
    exact k
  obtain ⟨T1_2, h1_2, X1_2, e1_2, W1_2, st1_2⟩ := putFN X1_1 hx hZ hown (hw _ (List.mem_of_getElem? (i := 9) rfl)) Via.refl e1_1 F_d E_r0 (Or.inr ⟨(hw _ (List.mem_of_getElem? (i := 10) rfl)), rfl, hnm⟩) (hw _ (List.mem_of_getElem? (i := 1) rfl)) (ty := .boolean) (v' := (.int (nar .boolean p1))) (by decide) rfl (fits_nar_bool _) (g := (mkF m 6 #[.val (.ref r0), .val (.int p1)] [(.int p1), (.ref r0)])) rfl rfl (hb hby d1_6)
  have Fw1_2 := F_d.same W1_2
  have N1_2 := Fr.snoc X1_2 N0 g_r0
  refine own_fw st1_2 ?_
  obtain ⟨fs, hr, hrun, hended, hW, hsame⟩ := X1_2.leave (v := none) (fun _ => rfl)
  refine ⟨_, _, X1_2.returnOut hx Bd.returns (hb hby d1_9) hr, hrun, hended, _, _, rfl, ?_, ⟨_, rfl⟩, hW, hsame.mono (by decide) (by decide)⟩
  have eh : (T1_2.setFrames fs).heap = h1_2 := e1_2
  rw [eh]
  exact ⟨rfl, N1_2, ((Keep.refl h0 [r0]).wr W1_2 (Or.inl (List.mem_of_getElem? (i := 0) rfl))), (E_r0.wr W1_2)⟩
theorem d4_0 : decode prog_10_method_13_code 0 = .ok (.iload_n 2, 1) := by decide +kernel
theorem d4_1 : decode prog_10_method_13_code 1 = .ok (.iconst 1, 1) := by decide +kernel
theorem d4_2 : decode prog_10_method_13_code 2 = .ok (.if_icmp .ge 17, 3) := by decide +kernel
theorem d4_19 : decode prog_10_method_13_code 19 = .ok (.iload_n 1, 1) := by decide +kernel
theorem d4_20 : decode prog_10_method_13_code 20 = .ok (.ifCond .lt 8, 3) := by decide +kernel
theorem d4_23 : decode prog_10_method_13_code 23 = .ok (.iload_n 1, 1) := by decide +kernel
theorem d4_24 : decode prog_10_method_13_code 24 = .ok (.iload_n 2, 1) := by decide +kernel
theorem d4_25 : decode prog_10_method_13_code 25 = .ok (.if_icmp .le 18, 3) := by decide +kernel
theorem d4_43 : decode prog_10_method_13_code 43 = .ok (.iload_n 1, 1) := by decide +kernel
theorem d4_44 : decode prog_10_method_13_code 44 = .ok (.i2f, 1) := by decide +kernel
theorem d4_45 : decode prog_10_method_13_code 45 = .ok (.iload_n 2, 1) := by decide +kernel
theorem d4_46 : decode prog_10_method_13_code 46 = .ok (.i2f, 1) := by decide +kernel
theorem d4_47 : decode prog_10_method_13_code 47 = .ok (.fdiv, 1) := by decide +kernel
theorem d4_48 : decode prog_10_method_13_code 48 = .ok (.freturn, 1) := by decide +kernel
theorem pn4 : plainName "com/example/terms_to_scores/termstoscores/classic/ClassicModel" = true := by first | (simp [plainName, overriddenIn]; done) | decide +kernel
theorem ef4 (m : MethodId) (r0 : Addr) (p1 : Int32) (p2 : Int32) : entryFrame m #[(.ref r0), (.int p1), (.int p2)] 3 = mkF m 0 #[.val (.ref r0), .val (.int p1), .val (.int p2)] [] := by first | (simp [entryFrame, mkF, argsToLocals, Value.category]; done) | rfl
def Q4 (Z : State) (p1 p2 : Int32) (h0 : Heap) (n0 : Nat) (w : Option Value) (h : Heap) (L : List Loc) : Prop := w = some (.float (FP.fdiv (FP.i2f p1) (FP.i2f p2))) ∧ Fr n0 L ∧ h = h0
set_option maxRecDepth 65536 in
set_option maxHeartbeats 40000000 in
theorem rm4 (l : Launch) (Z : State) (a0 : Array Value) (hw : ∀ d ∈ tables_1, d.before a0 Z = true) (ws : List Jvm.Cond) (r0 : Addr) (p1 : Int32) (p2 : Int32) (h0 : Heap) (n0 : Nat) (Z0 : n0 ≤ h0.size) (hc2 : ¬ (p2 < (1 : Int32))) (hc20 : ¬ (p1 < (0 : Int32))) (hc25 : ¬ (p2 < p1)) (hn : Jvm.Free.Fl.NoNaN32 (FP.fdiv (FP.i2f p1) (FP.i2f p2))) :
    MetFree l (⟨"com/example/terms_to_scores/termstoscores/classic/ClassicModel", "coord", "(II)F"⟩ : MethodName) (head1 (Jvm.Cond.code (⟨"com/example/terms_to_scores/termstoscores/classic/ClassicModel", "coord", "(II)F"⟩ : MethodName) prog_10_method_13_code 3 (some .float) :: ws) ({ frames := 0, cells := 0, slots := 0, locals := 0 } : Room)) (fun a U => a = #[(.ref r0), (.int p1), (.int p2)] ∧ Z.Warmed39 U.vm ∧ U.heap = h0) (fun _ _ _ _ _ => True) (fun _ U o U' => ∃ v L, o = .returned v ∧ Q4 Z p1 p2 h0 n0 v U'.heap L ∧ FrameEnd U o U' L ({ frames := 0, cells := 0, slots := 0, locals := 0 } : Room).cells ({ frames := 0, cells := 0, slots := 0, locals := 0 } : Room).slots) := by
  refine MetFree.of_bodySF (plainFor_of_name pn4) hisR ?_
  intro p e s m args below meth c s₁ Bd hml0 hP hK
  obtain ⟨rfl, hZ, hh⟩ := hP
  have hx := Bd.exec
  have hby := Bd.bytes
  have hml : c.maxLocals = 3 := hml0
  have hown : s.vm.findClass "com/example/terms_to_scores/termstoscores/classic/ClassicModel" = some m.cls := findClass_of_methodNamed Bd.named
  have hnm := (name_of_methodNamed Bd.named Bd.method).1
  have X0 : Stand p l e ({ frames := 0, cells := 0, slots := 0, locals := 0 } : Room) s m #[(.ref r0), (.int p1), (.int p2)] below meth c s₁ [] 0 0 := Stand.of_body Bd
  have e0 : s₁.heap = h0 := by rw [← hh, Bd.state]; rfl
  have N0 := Fr.nil n0
  refine own_fw (A := s₁.setTop (mkF m 0 #[.val (.ref r0), .val (.int p1), .val (.int p2)] [])) (fun t k => castTop (ef4 m r0 p1 p2) k) ?_
  refine own_fw (A := s₁.setTop (mkF m 48 #[.val (.ref r0), .val (.int p1), .val (.int p2)] [(.float (FP.fdiv (FP.i2f p1) (FP.i2f p2)))])) (fun t k => ?_) ?_
  · show Steps p.tables e below (s₁.setTop (mkF m 0 #[.val (.ref r0), .val (.int p1), .val (.int p2)] [])) t
    refine XS.iloadN X0.here hx rfl (hb hby d4_0) rfl ?_
    show Steps p.tables e below (s₁.setTop (mkF m 1 #[.val (.ref r0), .val (.int p1), .val (.int p2)] [(.int p2)])) t
    refine XS.iconst X0.here hx rfl (hb hby d4_1) ?_
    show Steps p.tables e below (s₁.setTop (mkF m 2 #[.val (.ref r0), .val (.int p1), .val (.int p2)] [(.int (1 : Int32)), (.int p2)])) t
    refine XS.icmpYes X0.here hx rfl (pc0 := 2) (pc' := 19) rfl (hb hby d4_2) rfl (flt hc2).2.1 (by decide) (by decide) ?_
    show Steps p.tables e below (s₁.setTop (mkF m 19 #[.val (.ref r0), .val (.int p1), .val (.int p2)] [])) t
    refine XS.iloadN X0.here hx rfl (hb hby d4_19) rfl ?_
    show Steps p.tables e below (s₁.setTop (mkF m 20 #[.val (.ref r0), .val (.int p1), .val (.int p2)] [(.int p1)])) t
    refine XS.ifNo X0.here hx rfl (hb hby d4_20) rfl ((if0 _ _).trans (flt hc20).1) ?_
    show Steps p.tables e below (s₁.setTop (mkF m 23 #[.val (.ref r0), .val (.int p1), .val (.int p2)] [])) t
    refine XS.iloadN X0.here hx rfl (hb hby d4_23) rfl ?_
    show Steps p.tables e below (s₁.setTop (mkF m 24 #[.val (.ref r0), .val (.int p1), .val (.int p2)] [(.int p1)])) t
    refine XS.iloadN X0.here hx rfl (hb hby d4_24) rfl ?_
    show Steps p.tables e below (s₁.setTop (mkF m 25 #[.val (.ref r0), .val (.int p1), .val (.int p2)] [(.int p2), (.int p1)])) t
    refine XS.icmpYes X0.here hx rfl (pc0 := 25) (pc' := 43) rfl (hb hby d4_25) rfl (flt hc25).2.2.2 (by decide) (by decide) ?_
    show Steps p.tables e below (s₁.setTop (mkF m 43 #[.val (.ref r0), .val (.int p1), .val (.int p2)] [])) t
    refine XS.iloadN X0.here hx rfl (hb hby d4_43) rfl ?_
    show Steps p.tables e below (s₁.setTop (mkF m 44 #[.val (.ref r0), .val (.int p1), .val (.int p2)] [(.int p1)])) t
    refine XS.i2fS X0.here hx rfl (hb hby d4_44) rfl rfl ?_
    show Steps p.tables e below (s₁.setTop (mkF m 45 #[.val (.ref r0), .val (.int p1), .val (.int p2)] [(.float (FP.i2f p1))])) t
    refine XS.iloadN X0.here hx rfl (hb hby d4_45) rfl ?_
    show Steps p.tables e below (s₁.setTop (mkF m 46 #[.val (.ref r0), .val (.int p1), .val (.int p2)] [(.int p2), (.float (FP.i2f p1))])) t
    refine XS.i2fS X0.here hx rfl (hb hby d4_46) rfl rfl ?_
    show Steps p.tables e below (s₁.setTop (mkF m 47 #[.val (.ref r0), .val (.int p1), .val (.int p2)] [(.float (FP.i2f p2)), (.float (FP.i2f p1))])) t
    refine XS.fdivS X0.here hx rfl (hb hby d4_47) rfl hn rfl ?_
    exact k
  obtain ⟨fs, hr, hrun, hended, hW, hsame⟩ := X0.leave (v := some (.float (FP.fdiv (FP.i2f p1) (FP.i2f p2)))) (fun h => by rw [Bd.returns] at h; cases h)
  refine ⟨_, _, retF X0 hx Bd.returns (hb hby d4_48) hr, hrun, hended, _, _, rfl, ?_, ⟨_, rfl⟩, hW, hsame.mono (by decide) (by decide)⟩
  have eh : (s₁.setFrames fs).heap = h0 := e0
  rw [eh]
  exact ⟨rfl, N0, rfl⟩
theorem own_cl (p0 : Int32) : 1 ≤ (maxF (1 : Int32) (p0 &&& (2147483647 : Int32))).toInt := by
  have h := c_and p0 2147483647 (by decide)
  rw [maxF]
  split
  · rename_i q
    rw [Int32.lt_iff_toInt_lt] at q
    have z : (1 : Int32).toInt = 1 := rfl
    omega
  · decide
theorem own_sp (p0 : Int32) : (((maxF (1 : Int32) (p0 &&& (2147483647 : Int32))).toInt64) + (1 : Int64)).toInt = (maxF (1 : Int32) (p0 &&& (2147483647 : Int32))).toInt + 1 := by
  have h := c_ladd (maxF (1 : Int32) (p0 &&& (2147483647 : Int32))).toInt64 1
  rw [c_i2l] at h
  have r := rng64 (((maxF (1 : Int32) (p0 &&& (2147483647 : Int32))).toInt64) + (1 : Int64))
  have r2 := rng32 (maxF (1 : Int32) (p0 &&& (2147483647 : Int32)))
  have z : (1 : Int64).toInt = 1 := rfl
  have k := own_cl p0
  omega
theorem own_nz (p0 : Int32) : (((maxF (1 : Int32) (p0 &&& (2147483647 : Int32))).toInt64) + (1 : Int64)) ≠ (0 : Int64) := by
  intro q
  have h := own_sp p0
  rw [q] at h
  have k := own_cl p0
  have z : (0 : Int64).toInt = 0 := rfl
  omega
theorem own_ma (p0 p1 : Int32) : 0 ≤ ((own_lrem ((p1.toInt64) &&& (4294967295 : Int64)) (((maxF (1 : Int32) (p0 &&& (2147483647 : Int32))).toInt64) + (1 : Int64))).toInt32).toInt ∧ ((own_lrem ((p1.toInt64) &&& (4294967295 : Int64)) (((maxF (1 : Int32) (p0 &&& (2147483647 : Int32))).toInt64) + (1 : Int64))).toInt32).toInt ≤ (maxF (1 : Int32) (p0 &&& (2147483647 : Int32))).toInt := by
  have h1 := c_maskL p1.toInt64 4294967295 32 (by decide) (by decide)
  have h2 := own_sp p0
  have k := own_cl p0
  have r2 := rng32 (maxF (1 : Int32) (p0 &&& (2147483647 : Int32)))
  have h3 := (c_lrem (p1.toInt64 &&& 4294967295) (((maxF (1 : Int32) (p0 &&& (2147483647 : Int32))).toInt64) + (1 : Int64)) _ h2).1 (by omega)
  have h4 := c_l2i (own_lrem (p1.toInt64 &&& 4294967295) (((maxF (1 : Int32) (p0 &&& (2147483647 : Int32))).toInt64) + (1 : Int64)))
  change (own_lrem (p1.toInt64 &&& 4294967295) (((maxF (1 : Int32) (p0 &&& (2147483647 : Int32))).toInt64) + (1 : Int64))).toInt = _ at h3
  have r3 := rng32 ((own_lrem ((p1.toInt64) &&& (4294967295 : Int64)) (((maxF (1 : Int32) (p0 &&& (2147483647 : Int32))).toInt64) + (1 : Int64))).toInt32)
  have h5 := Int.emod_nonneg (p1.toInt64 &&& 4294967295).toInt (show (maxF (1 : Int32) (p0 &&& (2147483647 : Int32))).toInt + 1 ≠ 0 by omega)
  have h6 := Int.emod_lt_of_pos (p1.toInt64 &&& 4294967295).toInt (show 0 < (maxF (1 : Int32) (p0 &&& (2147483647 : Int32))).toInt + 1 by omega)
  omega
def own_co (p0 p1 : Int32) := own_coord ((own_lrem ((p1.toInt64) &&& (4294967295 : Int64)) (((maxF (1 : Int32) (p0 &&& (2147483647 : Int32))).toInt64) + (1 : Int64))).toInt32) (maxF (1 : Int32) (p0 &&& (2147483647 : Int32))) (own_ma p0 p1).1 (own_cl p0) (own_ma p0 p1).2
theorem own_c2 (p0 : Int32) : ¬ ((maxF (1 : Int32) (p0 &&& (2147483647 : Int32))) < (1 : Int32)) := by
  rw [Int32.lt_iff_toInt_lt]
  have k := own_cl p0
  have z : (1 : Int32).toInt = 1 := rfl
  omega
theorem own_c20 (p0 p1 : Int32) : ¬ (((own_lrem ((p1.toInt64) &&& (4294967295 : Int64)) (((maxF (1 : Int32) (p0 &&& (2147483647 : Int32))).toInt64) + (1 : Int64))).toInt32) < (0 : Int32)) := by
  rw [Int32.lt_iff_toInt_lt]
  have k := (own_ma p0 p1).1
  have z : (0 : Int32).toInt = 0 := rfl
  omega
theorem own_c25 (p0 p1 : Int32) : ¬ ((maxF (1 : Int32) (p0 &&& (2147483647 : Int32))) < ((own_lrem ((p1.toInt64) &&& (4294967295 : Int64)) (((maxF (1 : Int32) (p0 &&& (2147483647 : Int32))).toInt64) + (1 : Int64))).toInt32)) := by
  rw [Int32.lt_iff_toInt_lt]
  have k := (own_ma p0 p1).2
  omega
theorem pn0 : plainName "com/example/terms_to_scores/termstoscores/classic/ClassicModelCoordPinLaw" = true := by first | (simp [plainName, overriddenIn]; done) | decide +kernel
theorem pd0_0 : parseMethodDescriptor "(Z)V" = some ⟨[.boolean], none⟩ := by decide +kernel
theorem pd0_1 : parseMethodDescriptor "(II)I" = some ⟨[.int, .int], some .int⟩ := by decide +kernel
theorem pd0_2 : parseMethodDescriptor "(II)F" = some ⟨[.int, .int], some .float⟩ := by decide +kernel
theorem ef0 (m : MethodId) (p0 : Int32) (p1 : Int32) (p2 : Int32) : entryFrame m #[(.int p0), (.int p1), (.int p2)] maxLocals = mkF m 0 #[.val (.int p0), .val (.int p1), .val (.int p2), .unset, .unset, .unset, .unset, .unset, .unset, .unset, .unset, .unset] [] := by first | (simp [entryFrame, mkF, argsToLocals, Value.category, maxLocals]; done) | rfl
def gFlag (p0 : Int32) (p1 : Int32) (p2 : Int32) : Int32 := (if (p2 &&& (1 : Int32)) = (0 : Int32) then (0 : Int32) else (1 : Int32))
def Q0 (Z : State) (h0 : Heap) (n0 : Nat) (v : Option Value) (h : Heap) (L : List Loc) : Prop := v = some (.int 1) ∧ Fr n0 L
set_option maxRecDepth 65536 in
set_option maxHeartbeats 40000000 in
theorem rm0 (l : Launch) (Z : State) (a0 : Array Value) (hw : ∀ d ∈ tables_1, d.before a0 Z = true) (ws : List Jvm.Cond) (p0 : Int32) (p1 : Int32) (p2 : Int32) (h0 : Heap) (n0 : Nat) (Z0 : n0 ≤ h0.size) :
    MetFree l x (head1 (Jvm.Cond.code x code maxLocals ret :: ws) room_1) (fun a U => a = #[(.int p0), (.int p1), (.int p2)] ∧ Z.Warmed39 U.vm ∧ U.heap = h0) (fun _ _ _ _ _ => True) (fun _ U o U' => ∃ v L, o = .returned v ∧ Q0 Z  h0 n0 v U'.heap L ∧ FrameEnd U o U' L room_1.cells room_1.slots) := by
  refine MetFree.of_bodySF (plainFor_of_name pn0) hisR ?_
  intro p e s m args below meth c s₁ Bd hml0 hP hK
  obtain ⟨rfl, hZ, hh⟩ := hP
  have hx := Bd.exec
  have hby := Bd.bytes
  have hml : c.maxLocals = 12 := hml0
  have hown : s.vm.findClass "com/example/terms_to_scores/termstoscores/classic/ClassicModelCoordPinLaw" = some m.cls := findClass_of_methodNamed Bd.named
  have hnm := (name_of_methodNamed Bd.named Bd.method).1
  have X0 : Stand p l e room_1 s m #[(.int p0), (.int p1), (.int p2)] below meth c s₁ [] 0 0 := Stand.of_body Bd
  have e0 : s₁.heap = h0 := by rw [← hh, Bd.state]; rfl
  have N0 := Fr.nil n0
  refine own_fw (A := s₁.setTop (mkF m 0 #[.val (.int p0), .val (.int p1), .val (.int p2), .unset, .unset, .unset, .unset, .unset, .unset, .unset, .unset, .unset] [])) (fun t k => castTop (ef0 m p0 p1 p2) k) ?_
  obtain ⟨T0_1, h0_1, X0_1, e0_1, E0_1, A0_1, D0_1, -, st0_1⟩ := newO X0 hx hZ hown (hw _ (List.mem_of_getElem? (i := 0) rfl)) (hw _ (List.mem_of_getElem? (i := 1) rfl)) (hw _ (List.mem_of_getElem? (i := 2) rfl)) e0 (g := (mkF m 0 #[.val (.int p0), .val (.int p1), .val (.int p2), .unset, .unset, .unset, .unset, .unset, .unset, .unset, .unset, .unset] [])) rfl (hb hby at_0) (by decide) (by decide)
  obtain ⟨b0_1, g0_1⟩ : ∃ z, z = h0.size := ⟨_, rfl⟩
  rw [← g0_1] at A0_1 D0_1 st0_1
  have g_b0_1 : n0 ≤ b0_1 := Nat.le_trans Z0 (Nat.le_of_eq g0_1.symm)
  have F_discountOverlaps_b0_1 : Fld Z h0_1 b0_1 "com/example/terms_to_scores/termstoscores/classic/ClassicModel" "discountOverlaps" "Z" (.int (0 : Int32)) := D0_1 (Or.inr (hw _ (List.mem_of_getElem? (i := 10) rfl))) (ty := .boolean) (by decide)
  refine own_fw st0_1 ?_
  refine own_fw (A := T0_1.setTop (mkF m 4 #[.val (.int p0), .val (.int p1), .val (.int p2), .unset, .unset, .unset, .unset, .unset, .unset, .unset, .unset, .unset] [(.ref b0_1), (.ref b0_1)])) (fun t k => ?_) ?_
  · show Steps p.tables e below (T0_1.setTop (mkF m 3 #[.val (.int p0), .val (.int p1), .val (.int p2), .unset, .unset, .unset, .unset, .unset, .unset, .unset, .unset, .unset] [(.ref b0_1)])) t
    refine XS.dup X0_1.here hx rfl (hb hby at_3) rfl rfl ?_
    exact k
  have sg0_4 : ∀ t, Steps p.tables e below (T0_1.setTop (mkF m 15 #[.val (.int p0), .val (.int p1), .val (.int p2), .unset, .unset, .unset, .unset, .unset, .unset, .unset, .unset, .unset] [(.int (gFlag p0 p1 p2)), (.ref b0_1), (.ref b0_1)])) t → Steps p.tables e below (T0_1.setTop (mkF m 4 #[.val (.int p0), .val (.int p1), .val (.int p2), .unset, .unset, .unset, .unset, .unset, .unset, .unset, .unset, .unset] [(.ref b0_1), (.ref b0_1)])) t := by
    intro t k
    show Steps p.tables e below (T0_1.setTop (mkF m 4 #[.val (.int p0), .val (.int p1), .val (.int p2), .unset, .unset, .unset, .unset, .unset, .unset, .unset, .unset, .unset] [(.ref b0_1), (.ref b0_1)])) t
    refine XS.iloadN X0_1.here hx rfl (hb hby at_4) rfl ?_
    show Steps p.tables e below (T0_1.setTop (mkF m 5 #[.val (.int p0), .val (.int p1), .val (.int p2), .unset, .unset, .unset, .unset, .unset, .unset, .unset, .unset, .unset] [(.int p2), (.ref b0_1), (.ref b0_1)])) t
    refine XS.iconst X0_1.here hx rfl (hb hby at_5) ?_
    show Steps p.tables e below (T0_1.setTop (mkF m 6 #[.val (.int p0), .val (.int p1), .val (.int p2), .unset, .unset, .unset, .unset, .unset, .unset, .unset, .unset, .unset] [(.int (1 : Int32)), (.int p2), (.ref b0_1), (.ref b0_1)])) t
    refine XS.iand X0_1.here hx rfl (hb hby at_6) rfl ?_
    show Steps p.tables e below (T0_1.setTop (mkF m 7 #[.val (.int p0), .val (.int p1), .val (.int p2), .unset, .unset, .unset, .unset, .unset, .unset, .unset, .unset, .unset] [(.int (p2 &&& (1 : Int32))), (.ref b0_1), (.ref b0_1)])) t
    by_cases hc0_1 : (p2 &&& (1 : Int32)) = (0 : Int32)
    · refine XS.ifYes X0_1.here hx rfl (pc0 := 7) (pc' := 14) rfl (hb hby at_7) rfl ((if0 _ _).trans (teq hc0_1).1) (by decide) (by decide) ?_
      show Steps p.tables e below (T0_1.setTop (mkF m 14 #[.val (.int p0), .val (.int p1), .val (.int p2), .unset, .unset, .unset, .unset, .unset, .unset, .unset, .unset, .unset] [(.ref b0_1), (.ref b0_1)])) t
      refine XS.iconst X0_1.here hx rfl (hb hby at_14) ?_
      have q : gFlag p0 p1 p2 = (0 : Int32) := by rw [gFlag, if_pos hc0_1]
      rw [q] at k
      exact k
    · refine XS.ifNo X0_1.here hx rfl (hb hby at_7) rfl ((if0 _ _).trans (feq hc0_1).1) ?_
      show Steps p.tables e below (T0_1.setTop (mkF m 10 #[.val (.int p0), .val (.int p1), .val (.int p2), .unset, .unset, .unset, .unset, .unset, .unset, .unset, .unset, .unset] [(.ref b0_1), (.ref b0_1)])) t
      refine XS.iconst X0_1.here hx rfl (hb hby at_10) ?_
      show Steps p.tables e below (T0_1.setTop (mkF m 11 #[.val (.int p0), .val (.int p1), .val (.int p2), .unset, .unset, .unset, .unset, .unset, .unset, .unset, .unset, .unset] [(.int (1 : Int32)), (.ref b0_1), (.ref b0_1)])) t
      refine XS.goto X0_1.here hx rfl (pc0 := 11) (pc' := 15) rfl (hb hby at_11) (by decide) (by decide) ?_
      have q : gFlag p0 p1 p2 = (1 : Int32) := by rw [gFlag, if_neg hc0_1]
      rw [q] at k
      exact k
  refine own_fw sg0_4 ?_
  obtain ⟨_, _, ⟨T0_2, L0_2, k0_2, n0_2⟩, -, X0_2, ⟨Lc0_2, hQ0_2, l0_2, y0_2, z0_2⟩, st0_2⟩ := X0_1.specialBack hx (y := (⟨"com/example/terms_to_scores/termstoscores/classic/ClassicModel", "<init>", "(Z)V"⟩ : MethodName)) rfl hown (mvT hZ (hw _ (List.mem_of_getElem? (i := 3) rfl))) (mvT hZ (hw _ (List.mem_of_getElem? (i := 4) rfl))) (mvT hZ (hw _ (List.mem_of_getElem? (i := 5) rfl))) (by decide) (backOf (W := 1) (rm1 l Z a0 hw [] b0_1 (gFlag p0 p1 p2) h0_1 n0 (Nat.le_trans Z0 E0_1.1) A0_1 F_discountOverlaps_b0_1 g_b0_1) hZ (hw _ (List.mem_of_getElem? (i := 5) rfl)) (hw _ (List.mem_of_getElem? (i := 2) rfl)) (by decide) (by decide)) (g := (mkF m 15 #[.val (.int p0), .val (.int p1), .val (.int p2), .unset, .unset, .unset, .unset, .unset, .unset, .unset, .unset, .unset] [(.int (gFlag p0 p1 p2)), (.ref b0_1), (.ref b0_1)])) rfl (by rw [hml]; rfl) (Steps.refl _) (a := b0_1) (argsL := [(.int (gFlag p0 p1 p2))]) (rest := [(.ref b0_1)]) (lenOf pd0_0 rfl) rfl (by show 2 * 0 + _ ≤ _; exact Nat.le_of_eq rfl) (hb hby at_15) (fun _ _ => ⟨rfl, e0_1, (by decide : 1 + 0 ≤ _), (by decide : 1 + 0 ≤ _)⟩)
  dsimp only [Pt.U, Pt.locs, Pt.cells, Pt.slots] at X0_2 l0_2 y0_2 z0_2 st0_2 hQ0_2
  subst l0_2 y0_2 z0_2
  obtain ⟨rfl, N0_2q, K0_2, Ex0_2⟩ := hQ0_2
  have N0_2 := Fr.app N0 N0_2q
  refine own_fw (fun t k => st0_2.trans k) ?_
  refine own_fw (A := T0_2.setTop (mkF m 24 #[.val (.int p0), .val (.int p1), .val (.int p2), .val (.ref b0_1), .unset, .unset, .unset, .unset, .unset, .unset, .unset, .unset] [(.int (p0 &&& (2147483647 : Int32))), (.int (1 : Int32))])) (fun t k => ?_) ?_
  · show Steps p.tables e below (T0_2.setTop (mkF m 18 #[.val (.int p0), .val (.int p1), .val (.int p2), .unset, .unset, .unset, .unset, .unset, .unset, .unset, .unset, .unset] [(.ref b0_1)])) t
    refine XS.astoreN X0_2.here hx rfl (hb hby at_18) rfl rfl (l' := #[.val (.int p0), .val (.int p1), .val (.int p2), .val (.ref b0_1), .unset, .unset, .unset, .unset, .unset, .unset, .unset, .unset]) rfl ?_
    show Steps p.tables e below (T0_2.setTop (mkF m 19 #[.val (.int p0), .val (.int p1), .val (.int p2), .val (.ref b0_1), .unset, .unset, .unset, .unset, .unset, .unset, .unset, .unset] [])) t
    refine XS.iconst X0_2.here hx rfl (hb hby at_19) ?_
    show Steps p.tables e below (T0_2.setTop (mkF m 20 #[.val (.int p0), .val (.int p1), .val (.int p2), .val (.ref b0_1), .unset, .unset, .unset, .unset, .unset, .unset, .unset, .unset] [(.int (1 : Int32))])) t
    refine XS.iloadN X0_2.here hx rfl (hb hby at_20) rfl ?_
    show Steps p.tables e below (T0_2.setTop (mkF m 21 #[.val (.int p0), .val (.int p1), .val (.int p2), .val (.ref b0_1), .unset, .unset, .unset, .unset, .unset, .unset, .unset, .unset] [(.int p0), (.int (1 : Int32))])) t
    refine X0_2.ldcInt hx hown (mvT hZ (hw _ (List.mem_of_getElem? (i := 11) rfl))) (g := (mkF m 21 #[.val (.int p0), .val (.int p1), .val (.int p2), .val (.ref b0_1), .unset, .unset, .unset, .unset, .unset, .unset, .unset, .unset] [(.int p0), (.int (1 : Int32))])) rfl (hb hby at_21) _ ?_
    show Steps p.tables e below (T0_2.setTop (mkF m 23 #[.val (.int p0), .val (.int p1), .val (.int p2), .val (.ref b0_1), .unset, .unset, .unset, .unset, .unset, .unset, .unset, .unset] [(.int (2147483647 : Int32)), (.int p0), (.int (1 : Int32))])) t
    refine XS.iand X0_2.here hx rfl (hb hby at_23) rfl ?_
    exact k
  obtain ⟨_, _, ⟨T0_3, L0_3, k0_3, n0_3⟩, -, X0_3, ⟨Lc0_3, hQ0_3, l0_3, y0_3, z0_3⟩, st0_3⟩ := Jvm.LawKit.callS X0_2 hx (y := (⟨"java/lang/Math", "max", "(II)I"⟩ : MethodName)) hown (mvT hZ (hw _ (List.mem_of_getElem? (i := 12) rfl))) (mvT hZ (hw _ (List.mem_of_getElem? (i := 13) rfl))) (mvT hZ (hw _ (List.mem_of_getElem? (i := 14) rfl))) (mvT hZ (hw _ (List.mem_of_getElem? (i := 15) rfl))) (by decide) (backOf (W := 0) (rm3 l Z a0 hw [] ((1 : Int32)) ((p0 &&& (2147483647 : Int32))) T0_2.heap n0 (Nat.le_trans (Nat.le_trans Z0 E0_1.1) K0_2.1) ) hZ (hw _ (List.mem_of_getElem? (i := 15) rfl)) (hw _ (List.mem_of_getElem? (i := 14) rfl)) (by decide) (by decide)) (g := (mkF m 24 #[.val (.int p0), .val (.int p1), .val (.int p2), .val (.ref b0_1), .unset, .unset, .unset, .unset, .unset, .unset, .unset, .unset] [(.int (p0 &&& (2147483647 : Int32))), (.int (1 : Int32))])) rfl (by rw [hml]; rfl) (argsL := [(.int (1 : Int32)), (.int (p0 &&& (2147483647 : Int32)))]) (rest := []) (lenOf pd0_1 rfl) rfl (by show 2 * 0 + _ ≤ _; exact Nat.le_of_eq rfl) (hb hby at_24) (fun _ _ => ⟨rfl, rfl, (by decide : 1 + 0 ≤ _), (by decide : 1 + 0 ≤ _)⟩)
  dsimp only [Pt.U, Pt.locs, Pt.cells, Pt.slots] at X0_3 l0_3 y0_3 z0_3 st0_3 hQ0_3
  subst l0_3 y0_3 z0_3
  obtain ⟨rfl, N0_3q, e0_3⟩ := hQ0_3
  have N0_3 := Fr.app N0_2 N0_3q
  refine own_fw st0_3 ?_
  refine own_fw (A := T0_3.setTop (mkF m 53 #[.val (.int p0), .val (.int p1), .val (.int p2), .val (.ref b0_1), .val (.int (maxF (1 : Int32) (p0 &&& (2147483647 : Int32)))), .val (.long (((maxF (1 : Int32) (p0 &&& (2147483647 : Int32))).toInt64) + (1 : Int64))), .second, .val (.int ((own_lrem ((p1.toInt64) &&& (4294967295 : Int64)) (((maxF (1 : Int32) (p0 &&& (2147483647 : Int32))).toInt64) + (1 : Int64))).toInt32)), .unset, .unset, .unset, .unset] [(.int (maxF (1 : Int32) (p0 &&& (2147483647 : Int32)))), (.int ((own_lrem ((p1.toInt64) &&& (4294967295 : Int64)) (((maxF (1 : Int32) (p0 &&& (2147483647 : Int32))).toInt64) + (1 : Int64))).toInt32)), (.ref b0_1)])) (fun t k => ?_) ?_
  · show Steps p.tables e below (T0_3.setTop (mkF m 27 #[.val (.int p0), .val (.int p1), .val (.int p2), .val (.ref b0_1), .unset, .unset, .unset, .unset, .unset, .unset, .unset, .unset] [(.int (maxF (1 : Int32) (p0 &&& (2147483647 : Int32))))])) t
    refine XS.istore X0_3.here hx rfl (hb hby at_27) rfl (l' := #[.val (.int p0), .val (.int p1), .val (.int p2), .val (.ref b0_1), .val (.int (maxF (1 : Int32) (p0 &&& (2147483647 : Int32)))), .unset, .unset, .unset, .unset, .unset, .unset, .unset]) rfl ?_
    show Steps p.tables e below (T0_3.setTop (mkF m 29 #[.val (.int p0), .val (.int p1), .val (.int p2), .val (.ref b0_1), .val (.int (maxF (1 : Int32) (p0 &&& (2147483647 : Int32)))), .unset, .unset, .unset, .unset, .unset, .unset, .unset] [])) t
    refine XS.iload X0_3.here hx rfl (hb hby at_29) rfl ?_
    show Steps p.tables e below (T0_3.setTop (mkF m 31 #[.val (.int p0), .val (.int p1), .val (.int p2), .val (.ref b0_1), .val (.int (maxF (1 : Int32) (p0 &&& (2147483647 : Int32)))), .unset, .unset, .unset, .unset, .unset, .unset, .unset] [(.int (maxF (1 : Int32) (p0 &&& (2147483647 : Int32))))])) t
    refine XS.i2l X0_3.here hx rfl (hb hby at_31) rfl ?_
    show Steps p.tables e below (T0_3.setTop (mkF m 32 #[.val (.int p0), .val (.int p1), .val (.int p2), .val (.ref b0_1), .val (.int (maxF (1 : Int32) (p0 &&& (2147483647 : Int32)))), .unset, .unset, .unset, .unset, .unset, .unset, .unset] [(.long ((maxF (1 : Int32) (p0 &&& (2147483647 : Int32))).toInt64))])) t
    refine XS.lconst X0_3.here hx rfl (hb hby at_32) ?_
    show Steps p.tables e below (T0_3.setTop (mkF m 33 #[.val (.int p0), .val (.int p1), .val (.int p2), .val (.ref b0_1), .val (.int (maxF (1 : Int32) (p0 &&& (2147483647 : Int32)))), .unset, .unset, .unset, .unset, .unset, .unset, .unset] [(.long (1 : Int64)), (.long ((maxF (1 : Int32) (p0 &&& (2147483647 : Int32))).toInt64))])) t
    refine XS.ladd X0_3.here hx rfl (hb hby at_33) rfl ?_
    show Steps p.tables e below (T0_3.setTop (mkF m 34 #[.val (.int p0), .val (.int p1), .val (.int p2), .val (.ref b0_1), .val (.int (maxF (1 : Int32) (p0 &&& (2147483647 : Int32)))), .unset, .unset, .unset, .unset, .unset, .unset, .unset] [(.long (((maxF (1 : Int32) (p0 &&& (2147483647 : Int32))).toInt64) + (1 : Int64)))])) t
    refine XS.lstore X0_3.here hx rfl (hb hby at_34) rfl (l' := #[.val (.int p0), .val (.int p1), .val (.int p2), .val (.ref b0_1), .val (.int (maxF (1 : Int32) (p0 &&& (2147483647 : Int32)))), .val (.long (((maxF (1 : Int32) (p0 &&& (2147483647 : Int32))).toInt64) + (1 : Int64))), .second, .unset, .unset, .unset, .unset, .unset]) rfl ?_
    show Steps p.tables e below (T0_3.setTop (mkF m 36 #[.val (.int p0), .val (.int p1), .val (.int p2), .val (.ref b0_1), .val (.int (maxF (1 : Int32) (p0 &&& (2147483647 : Int32)))), .val (.long (((maxF (1 : Int32) (p0 &&& (2147483647 : Int32))).toInt64) + (1 : Int64))), .second, .unset, .unset, .unset, .unset, .unset] [])) t
    refine XS.iloadN X0_3.here hx rfl (hb hby at_36) rfl ?_
    show Steps p.tables e below (T0_3.setTop (mkF m 37 #[.val (.int p0), .val (.int p1), .val (.int p2), .val (.ref b0_1), .val (.int (maxF (1 : Int32) (p0 &&& (2147483647 : Int32)))), .val (.long (((maxF (1 : Int32) (p0 &&& (2147483647 : Int32))).toInt64) + (1 : Int64))), .second, .unset, .unset, .unset, .unset, .unset] [(.int p1)])) t
    refine XS.i2l X0_3.here hx rfl (hb hby at_37) rfl ?_
    show Steps p.tables e below (T0_3.setTop (mkF m 38 #[.val (.int p0), .val (.int p1), .val (.int p2), .val (.ref b0_1), .val (.int (maxF (1 : Int32) (p0 &&& (2147483647 : Int32)))), .val (.long (((maxF (1 : Int32) (p0 &&& (2147483647 : Int32))).toInt64) + (1 : Int64))), .second, .unset, .unset, .unset, .unset, .unset] [(.long (p1.toInt64))])) t
    refine X0_3.ldc2Long hx hown (mvT hZ (hw _ (List.mem_of_getElem? (i := 16) rfl))) (g := (mkF m 38 #[.val (.int p0), .val (.int p1), .val (.int p2), .val (.ref b0_1), .val (.int (maxF (1 : Int32) (p0 &&& (2147483647 : Int32)))), .val (.long (((maxF (1 : Int32) (p0 &&& (2147483647 : Int32))).toInt64) + (1 : Int64))), .second, .unset, .unset, .unset, .unset, .unset] [(.long (p1.toInt64))])) rfl (hb hby at_38) _ ?_
    show Steps p.tables e below (T0_3.setTop (mkF m 41 #[.val (.int p0), .val (.int p1), .val (.int p2), .val (.ref b0_1), .val (.int (maxF (1 : Int32) (p0 &&& (2147483647 : Int32)))), .val (.long (((maxF (1 : Int32) (p0 &&& (2147483647 : Int32))).toInt64) + (1 : Int64))), .second, .unset, .unset, .unset, .unset, .unset] [(.long (4294967295 : Int64)), (.long (p1.toInt64))])) t
    refine XS.land X0_3.here hx rfl (hb hby at_41) rfl ?_
    show Steps p.tables e below (T0_3.setTop (mkF m 42 #[.val (.int p0), .val (.int p1), .val (.int p2), .val (.ref b0_1), .val (.int (maxF (1 : Int32) (p0 &&& (2147483647 : Int32)))), .val (.long (((maxF (1 : Int32) (p0 &&& (2147483647 : Int32))).toInt64) + (1 : Int64))), .second, .unset, .unset, .unset, .unset, .unset] [(.long ((p1.toInt64) &&& (4294967295 : Int64)))])) t
    refine XS.lload X0_3.here hx rfl (hb hby at_42) rfl ?_
    show Steps p.tables e below (T0_3.setTop (mkF m 44 #[.val (.int p0), .val (.int p1), .val (.int p2), .val (.ref b0_1), .val (.int (maxF (1 : Int32) (p0 &&& (2147483647 : Int32)))), .val (.long (((maxF (1 : Int32) (p0 &&& (2147483647 : Int32))).toInt64) + (1 : Int64))), .second, .unset, .unset, .unset, .unset, .unset] [(.long (((maxF (1 : Int32) (p0 &&& (2147483647 : Int32))).toInt64) + (1 : Int64))), (.long ((p1.toInt64) &&& (4294967295 : Int64)))])) t
    refine XS.lrem X0_3.here hx rfl (hb hby at_44) rfl (own_nz p0) ?_
    show Steps p.tables e below (T0_3.setTop (mkF m 45 #[.val (.int p0), .val (.int p1), .val (.int p2), .val (.ref b0_1), .val (.int (maxF (1 : Int32) (p0 &&& (2147483647 : Int32)))), .val (.long (((maxF (1 : Int32) (p0 &&& (2147483647 : Int32))).toInt64) + (1 : Int64))), .second, .unset, .unset, .unset, .unset, .unset] [(.long (own_lrem ((p1.toInt64) &&& (4294967295 : Int64)) (((maxF (1 : Int32) (p0 &&& (2147483647 : Int32))).toInt64) + (1 : Int64))))])) t
    refine XS.l2i X0_3.here hx rfl (hb hby at_45) rfl ?_
    show Steps p.tables e below (T0_3.setTop (mkF m 46 #[.val (.int p0), .val (.int p1), .val (.int p2), .val (.ref b0_1), .val (.int (maxF (1 : Int32) (p0 &&& (2147483647 : Int32)))), .val (.long (((maxF (1 : Int32) (p0 &&& (2147483647 : Int32))).toInt64) + (1 : Int64))), .second, .unset, .unset, .unset, .unset, .unset] [(.int ((own_lrem ((p1.toInt64) &&& (4294967295 : Int64)) (((maxF (1 : Int32) (p0 &&& (2147483647 : Int32))).toInt64) + (1 : Int64))).toInt32))])) t
    refine XS.istore X0_3.here hx rfl (hb hby at_46) rfl (l' := #[.val (.int p0), .val (.int p1), .val (.int p2), .val (.ref b0_1), .val (.int (maxF (1 : Int32) (p0 &&& (2147483647 : Int32)))), .val (.long (((maxF (1 : Int32) (p0 &&& (2147483647 : Int32))).toInt64) + (1 : Int64))), .second, .val (.int ((own_lrem ((p1.toInt64) &&& (4294967295 : Int64)) (((maxF (1 : Int32) (p0 &&& (2147483647 : Int32))).toInt64) + (1 : Int64))).toInt32)), .unset, .unset, .unset, .unset]) rfl ?_
    show Steps p.tables e below (T0_3.setTop (mkF m 48 #[.val (.int p0), .val (.int p1), .val (.int p2), .val (.ref b0_1), .val (.int (maxF (1 : Int32) (p0 &&& (2147483647 : Int32)))), .val (.long (((maxF (1 : Int32) (p0 &&& (2147483647 : Int32))).toInt64) + (1 : Int64))), .second, .val (.int ((own_lrem ((p1.toInt64) &&& (4294967295 : Int64)) (((maxF (1 : Int32) (p0 &&& (2147483647 : Int32))).toInt64) + (1 : Int64))).toInt32)), .unset, .unset, .unset, .unset] [])) t
    refine XS.aloadN X0_3.here hx rfl (hb hby at_48) rfl rfl ?_
    show Steps p.tables e below (T0_3.setTop (mkF m 49 #[.val (.int p0), .val (.int p1), .val (.int p2), .val (.ref b0_1), .val (.int (maxF (1 : Int32) (p0 &&& (2147483647 : Int32)))), .val (.long (((maxF (1 : Int32) (p0 &&& (2147483647 : Int32))).toInt64) + (1 : Int64))), .second, .val (.int ((own_lrem ((p1.toInt64) &&& (4294967295 : Int64)) (((maxF (1 : Int32) (p0 &&& (2147483647 : Int32))).toInt64) + (1 : Int64))).toInt32)), .unset, .unset, .unset, .unset] [(.ref b0_1)])) t
    refine XS.iload X0_3.here hx rfl (hb hby at_49) rfl ?_
    show Steps p.tables e below (T0_3.setTop (mkF m 51 #[.val (.int p0), .val (.int p1), .val (.int p2), .val (.ref b0_1), .val (.int (maxF (1 : Int32) (p0 &&& (2147483647 : Int32)))), .val (.long (((maxF (1 : Int32) (p0 &&& (2147483647 : Int32))).toInt64) + (1 : Int64))), .second, .val (.int ((own_lrem ((p1.toInt64) &&& (4294967295 : Int64)) (((maxF (1 : Int32) (p0 &&& (2147483647 : Int32))).toInt64) + (1 : Int64))).toInt32)), .unset, .unset, .unset, .unset] [(.int ((own_lrem ((p1.toInt64) &&& (4294967295 : Int64)) (((maxF (1 : Int32) (p0 &&& (2147483647 : Int32))).toInt64) + (1 : Int64))).toInt32)), (.ref b0_1)])) t
    refine XS.iload X0_3.here hx rfl (hb hby at_51) rfl ?_
    exact k
  obtain ⟨cq0_4, kq0_4, q0_4a, q0_4b, q0_4c⟩ := isOf hZ e0_3 Ex0_2
  obtain ⟨_, _, ⟨T0_4, L0_4, k0_4, n0_4⟩, -, X0_4, ⟨Lc0_4, hQ0_4, l0_4, y0_4, z0_4⟩, st0_4⟩ := X0_3.virtualBack hx (y := (⟨"com/example/terms_to_scores/termstoscores/classic/ClassicModel", "coord", "(II)F"⟩ : MethodName)) (z := (⟨"com/example/terms_to_scores/termstoscores/classic/ClassicModel", "coord", "(II)F"⟩ : MethodName)) hown (mvT hZ (hw _ (List.mem_of_getElem? (i := 17) rfl))) (mvT hZ (hw _ (List.mem_of_getElem? (i := 18) rfl))) (notFace_of_selects (args := #[]) (mvT hZ (hw _ (List.mem_of_getElem? (i := 20) rfl)))) (mvT hZ (hw _ (List.mem_of_getElem? (i := 20) rfl))) (mvT hZ (hw _ (List.mem_of_getElem? (i := 19) rfl))) (by decide) (backOf (W := 0) (rm4 l Z a0 hw [] b0_1 ((own_lrem ((p1.toInt64) &&& (4294967295 : Int64)) (((maxF (1 : Int32) (p0 &&& (2147483647 : Int32))).toInt64) + (1 : Int64))).toInt32) (maxF (1 : Int32) (p0 &&& (2147483647 : Int32))) T0_2.heap n0 (Nat.le_trans (Nat.le_trans Z0 E0_1.1) K0_2.1) (own_c2 p0) (own_c20 p0 p1) (own_c25 p0 p1) (own_co p0 p1).1) hZ (hw _ (List.mem_of_getElem? (i := 21) rfl)) (hw _ (List.mem_of_getElem? (i := 2) rfl)) (by decide) (by decide)) q0_4a q0_4c (g := (mkF m 53 #[.val (.int p0), .val (.int p1), .val (.int p2), .val (.ref b0_1), .val (.int (maxF (1 : Int32) (p0 &&& (2147483647 : Int32)))), .val (.long (((maxF (1 : Int32) (p0 &&& (2147483647 : Int32))).toInt64) + (1 : Int64))), .second, .val (.int ((own_lrem ((p1.toInt64) &&& (4294967295 : Int64)) (((maxF (1 : Int32) (p0 &&& (2147483647 : Int32))).toInt64) + (1 : Int64))).toInt32)), .unset, .unset, .unset, .unset] [(.int (maxF (1 : Int32) (p0 &&& (2147483647 : Int32)))), (.int ((own_lrem ((p1.toInt64) &&& (4294967295 : Int64)) (((maxF (1 : Int32) (p0 &&& (2147483647 : Int32))).toInt64) + (1 : Int64))).toInt32)), (.ref b0_1)])) rfl (by rw [hml]; rfl) (Steps.refl _) (argsL := [(.int ((own_lrem ((p1.toInt64) &&& (4294967295 : Int64)) (((maxF (1 : Int32) (p0 &&& (2147483647 : Int32))).toInt64) + (1 : Int64))).toInt32)), (.int (maxF (1 : Int32) (p0 &&& (2147483647 : Int32))))]) (rest := []) (lenOf pd0_2 rfl) rfl (by show 2 * 0 + _ ≤ _; exact Nat.le_of_eq rfl) (hb hby at_53) (fun _ _ => ⟨rfl, e0_3, (by decide : 1 + 0 ≤ _), (by decide : 1 + 0 ≤ _)⟩)
  dsimp only [Pt.U, Pt.locs, Pt.cells, Pt.slots] at X0_4 l0_4 y0_4 z0_4 st0_4 hQ0_4
  subst l0_4 y0_4 z0_4
  obtain ⟨rfl, N0_4q, e0_4⟩ := hQ0_4
  have N0_4 := Fr.app N0_3 N0_4q
  refine own_fw (fun t k => st0_4.trans k) ?_
  refine own_fw (A := T0_4.setTop (mkF m 74 #[.val (.int p0), .val (.int p1), .val (.int p2), .val (.ref b0_1), .val (.int (maxF (1 : Int32) (p0 &&& (2147483647 : Int32)))), .val (.long (((maxF (1 : Int32) (p0 &&& (2147483647 : Int32))).toInt64) + (1 : Int64))), .second, .val (.int ((own_lrem ((p1.toInt64) &&& (4294967295 : Int64)) (((maxF (1 : Int32) (p0 &&& (2147483647 : Int32))).toInt64) + (1 : Int64))).toInt32)), .val (.float (FP.fdiv (FP.i2f ((own_lrem ((p1.toInt64) &&& (4294967295 : Int64)) (((maxF (1 : Int32) (p0 &&& (2147483647 : Int32))).toInt64) + (1 : Int64))).toInt32)) (FP.i2f (maxF (1 : Int32) (p0 &&& (2147483647 : Int32)))))), .val (.float (FP.d2f (FP.ddiv (FP.f2d (FP.i2f ((own_lrem ((p1.toInt64) &&& (4294967295 : Int64)) (((maxF (1 : Int32) (p0 &&& (2147483647 : Int32))).toInt64) + (1 : Int64))).toInt32))) (FP.f2d (FP.i2f (maxF (1 : Int32) (p0 &&& (2147483647 : Int32)))))))), .unset, .unset] [(.int (maxF (1 : Int32) (p0 &&& (2147483647 : Int32)))), (.int ((own_lrem ((p1.toInt64) &&& (4294967295 : Int64)) (((maxF (1 : Int32) (p0 &&& (2147483647 : Int32))).toInt64) + (1 : Int64))).toInt32))])) (fun t k => ?_) ?_
  · show Steps p.tables e below (T0_4.setTop (mkF m 56 #[.val (.int p0), .val (.int p1), .val (.int p2), .val (.ref b0_1), .val (.int (maxF (1 : Int32) (p0 &&& (2147483647 : Int32)))), .val (.long (((maxF (1 : Int32) (p0 &&& (2147483647 : Int32))).toInt64) + (1 : Int64))), .second, .val (.int ((own_lrem ((p1.toInt64) &&& (4294967295 : Int64)) (((maxF (1 : Int32) (p0 &&& (2147483647 : Int32))).toInt64) + (1 : Int64))).toInt32)), .unset, .unset, .unset, .unset] [(.float (FP.fdiv (FP.i2f ((own_lrem ((p1.toInt64) &&& (4294967295 : Int64)) (((maxF (1 : Int32) (p0 &&& (2147483647 : Int32))).toInt64) + (1 : Int64))).toInt32)) (FP.i2f (maxF (1 : Int32) (p0 &&& (2147483647 : Int32))))))])) t
    refine XS.fstore X0_4.here hx rfl (hb hby at_56) rfl (l' := #[.val (.int p0), .val (.int p1), .val (.int p2), .val (.ref b0_1), .val (.int (maxF (1 : Int32) (p0 &&& (2147483647 : Int32)))), .val (.long (((maxF (1 : Int32) (p0 &&& (2147483647 : Int32))).toInt64) + (1 : Int64))), .second, .val (.int ((own_lrem ((p1.toInt64) &&& (4294967295 : Int64)) (((maxF (1 : Int32) (p0 &&& (2147483647 : Int32))).toInt64) + (1 : Int64))).toInt32)), .val (.float (FP.fdiv (FP.i2f ((own_lrem ((p1.toInt64) &&& (4294967295 : Int64)) (((maxF (1 : Int32) (p0 &&& (2147483647 : Int32))).toInt64) + (1 : Int64))).toInt32)) (FP.i2f (maxF (1 : Int32) (p0 &&& (2147483647 : Int32)))))), .unset, .unset, .unset]) rfl ?_
    show Steps p.tables e below (T0_4.setTop (mkF m 58 #[.val (.int p0), .val (.int p1), .val (.int p2), .val (.ref b0_1), .val (.int (maxF (1 : Int32) (p0 &&& (2147483647 : Int32)))), .val (.long (((maxF (1 : Int32) (p0 &&& (2147483647 : Int32))).toInt64) + (1 : Int64))), .second, .val (.int ((own_lrem ((p1.toInt64) &&& (4294967295 : Int64)) (((maxF (1 : Int32) (p0 &&& (2147483647 : Int32))).toInt64) + (1 : Int64))).toInt32)), .val (.float (FP.fdiv (FP.i2f ((own_lrem ((p1.toInt64) &&& (4294967295 : Int64)) (((maxF (1 : Int32) (p0 &&& (2147483647 : Int32))).toInt64) + (1 : Int64))).toInt32)) (FP.i2f (maxF (1 : Int32) (p0 &&& (2147483647 : Int32)))))), .unset, .unset, .unset] [])) t
    refine XS.iload X0_4.here hx rfl (hb hby at_58) rfl ?_
    show Steps p.tables e below (T0_4.setTop (mkF m 60 #[.val (.int p0), .val (.int p1), .val (.int p2), .val (.ref b0_1), .val (.int (maxF (1 : Int32) (p0 &&& (2147483647 : Int32)))), .val (.long (((maxF (1 : Int32) (p0 &&& (2147483647 : Int32))).toInt64) + (1 : Int64))), .second, .val (.int ((own_lrem ((p1.toInt64) &&& (4294967295 : Int64)) (((maxF (1 : Int32) (p0 &&& (2147483647 : Int32))).toInt64) + (1 : Int64))).toInt32)), .val (.float (FP.fdiv (FP.i2f ((own_lrem ((p1.toInt64) &&& (4294967295 : Int64)) (((maxF (1 : Int32) (p0 &&& (2147483647 : Int32))).toInt64) + (1 : Int64))).toInt32)) (FP.i2f (maxF (1 : Int32) (p0 &&& (2147483647 : Int32)))))), .unset, .unset, .unset] [(.int ((own_lrem ((p1.toInt64) &&& (4294967295 : Int64)) (((maxF (1 : Int32) (p0 &&& (2147483647 : Int32))).toInt64) + (1 : Int64))).toInt32))])) t
    refine XS.i2fS X0_4.here hx rfl (hb hby at_60) rfl rfl ?_
    show Steps p.tables e below (T0_4.setTop (mkF m 61 #[.val (.int p0), .val (.int p1), .val (.int p2), .val (.ref b0_1), .val (.int (maxF (1 : Int32) (p0 &&& (2147483647 : Int32)))), .val (.long (((maxF (1 : Int32) (p0 &&& (2147483647 : Int32))).toInt64) + (1 : Int64))), .second, .val (.int ((own_lrem ((p1.toInt64) &&& (4294967295 : Int64)) (((maxF (1 : Int32) (p0 &&& (2147483647 : Int32))).toInt64) + (1 : Int64))).toInt32)), .val (.float (FP.fdiv (FP.i2f ((own_lrem ((p1.toInt64) &&& (4294967295 : Int64)) (((maxF (1 : Int32) (p0 &&& (2147483647 : Int32))).toInt64) + (1 : Int64))).toInt32)) (FP.i2f (maxF (1 : Int32) (p0 &&& (2147483647 : Int32)))))), .unset, .unset, .unset] [(.float (FP.i2f ((own_lrem ((p1.toInt64) &&& (4294967295 : Int64)) (((maxF (1 : Int32) (p0 &&& (2147483647 : Int32))).toInt64) + (1 : Int64))).toInt32)))])) t
    refine XS.f2dS X0_4.here hx rfl (hb hby at_61) rfl (own_co p0 p1).2.1 rfl ?_
    show Steps p.tables e below (T0_4.setTop (mkF m 62 #[.val (.int p0), .val (.int p1), .val (.int p2), .val (.ref b0_1), .val (.int (maxF (1 : Int32) (p0 &&& (2147483647 : Int32)))), .val (.long (((maxF (1 : Int32) (p0 &&& (2147483647 : Int32))).toInt64) + (1 : Int64))), .second, .val (.int ((own_lrem ((p1.toInt64) &&& (4294967295 : Int64)) (((maxF (1 : Int32) (p0 &&& (2147483647 : Int32))).toInt64) + (1 : Int64))).toInt32)), .val (.float (FP.fdiv (FP.i2f ((own_lrem ((p1.toInt64) &&& (4294967295 : Int64)) (((maxF (1 : Int32) (p0 &&& (2147483647 : Int32))).toInt64) + (1 : Int64))).toInt32)) (FP.i2f (maxF (1 : Int32) (p0 &&& (2147483647 : Int32)))))), .unset, .unset, .unset] [(.double (FP.f2d (FP.i2f ((own_lrem ((p1.toInt64) &&& (4294967295 : Int64)) (((maxF (1 : Int32) (p0 &&& (2147483647 : Int32))).toInt64) + (1 : Int64))).toInt32))))])) t
    refine XS.iload X0_4.here hx rfl (hb hby at_62) rfl ?_
    show Steps p.tables e below (T0_4.setTop (mkF m 64 #[.val (.int p0), .val (.int p1), .val (.int p2), .val (.ref b0_1), .val (.int (maxF (1 : Int32) (p0 &&& (2147483647 : Int32)))), .val (.long (((maxF (1 : Int32) (p0 &&& (2147483647 : Int32))).toInt64) + (1 : Int64))), .second, .val (.int ((own_lrem ((p1.toInt64) &&& (4294967295 : Int64)) (((maxF (1 : Int32) (p0 &&& (2147483647 : Int32))).toInt64) + (1 : Int64))).toInt32)), .val (.float (FP.fdiv (FP.i2f ((own_lrem ((p1.toInt64) &&& (4294967295 : Int64)) (((maxF (1 : Int32) (p0 &&& (2147483647 : Int32))).toInt64) + (1 : Int64))).toInt32)) (FP.i2f (maxF (1 : Int32) (p0 &&& (2147483647 : Int32)))))), .unset, .unset, .unset] [(.int (maxF (1 : Int32) (p0 &&& (2147483647 : Int32)))), (.double (FP.f2d (FP.i2f ((own_lrem ((p1.toInt64) &&& (4294967295 : Int64)) (((maxF (1 : Int32) (p0 &&& (2147483647 : Int32))).toInt64) + (1 : Int64))).toInt32))))])) t
    refine XS.i2fS X0_4.here hx rfl (hb hby at_64) rfl rfl ?_
    show Steps p.tables e below (T0_4.setTop (mkF m 65 #[.val (.int p0), .val (.int p1), .val (.int p2), .val (.ref b0_1), .val (.int (maxF (1 : Int32) (p0 &&& (2147483647 : Int32)))), .val (.long (((maxF (1 : Int32) (p0 &&& (2147483647 : Int32))).toInt64) + (1 : Int64))), .second, .val (.int ((own_lrem ((p1.toInt64) &&& (4294967295 : Int64)) (((maxF (1 : Int32) (p0 &&& (2147483647 : Int32))).toInt64) + (1 : Int64))).toInt32)), .val (.float (FP.fdiv (FP.i2f ((own_lrem ((p1.toInt64) &&& (4294967295 : Int64)) (((maxF (1 : Int32) (p0 &&& (2147483647 : Int32))).toInt64) + (1 : Int64))).toInt32)) (FP.i2f (maxF (1 : Int32) (p0 &&& (2147483647 : Int32)))))), .unset, .unset, .unset] [(.float (FP.i2f (maxF (1 : Int32) (p0 &&& (2147483647 : Int32))))), (.double (FP.f2d (FP.i2f ((own_lrem ((p1.toInt64) &&& (4294967295 : Int64)) (((maxF (1 : Int32) (p0 &&& (2147483647 : Int32))).toInt64) + (1 : Int64))).toInt32))))])) t
    refine XS.f2dS X0_4.here hx rfl (hb hby at_65) rfl (own_co p0 p1).2.2.1 rfl ?_
    show Steps p.tables e below (T0_4.setTop (mkF m 66 #[.val (.int p0), .val (.int p1), .val (.int p2), .val (.ref b0_1), .val (.int (maxF (1 : Int32) (p0 &&& (2147483647 : Int32)))), .val (.long (((maxF (1 : Int32) (p0 &&& (2147483647 : Int32))).toInt64) + (1 : Int64))), .second, .val (.int ((own_lrem ((p1.toInt64) &&& (4294967295 : Int64)) (((maxF (1 : Int32) (p0 &&& (2147483647 : Int32))).toInt64) + (1 : Int64))).toInt32)), .val (.float (FP.fdiv (FP.i2f ((own_lrem ((p1.toInt64) &&& (4294967295 : Int64)) (((maxF (1 : Int32) (p0 &&& (2147483647 : Int32))).toInt64) + (1 : Int64))).toInt32)) (FP.i2f (maxF (1 : Int32) (p0 &&& (2147483647 : Int32)))))), .unset, .unset, .unset] [(.double (FP.f2d (FP.i2f (maxF (1 : Int32) (p0 &&& (2147483647 : Int32)))))), (.double (FP.f2d (FP.i2f ((own_lrem ((p1.toInt64) &&& (4294967295 : Int64)) (((maxF (1 : Int32) (p0 &&& (2147483647 : Int32))).toInt64) + (1 : Int64))).toInt32))))])) t
    refine XS.ddivS X0_4.here hx rfl (hb hby at_66) rfl (own_co p0 p1).2.2.2.1 rfl ?_
    show Steps p.tables e below (T0_4.setTop (mkF m 67 #[.val (.int p0), .val (.int p1), .val (.int p2), .val (.ref b0_1), .val (.int (maxF (1 : Int32) (p0 &&& (2147483647 : Int32)))), .val (.long (((maxF (1 : Int32) (p0 &&& (2147483647 : Int32))).toInt64) + (1 : Int64))), .second, .val (.int ((own_lrem ((p1.toInt64) &&& (4294967295 : Int64)) (((maxF (1 : Int32) (p0 &&& (2147483647 : Int32))).toInt64) + (1 : Int64))).toInt32)), .val (.float (FP.fdiv (FP.i2f ((own_lrem ((p1.toInt64) &&& (4294967295 : Int64)) (((maxF (1 : Int32) (p0 &&& (2147483647 : Int32))).toInt64) + (1 : Int64))).toInt32)) (FP.i2f (maxF (1 : Int32) (p0 &&& (2147483647 : Int32)))))), .unset, .unset, .unset] [(.double (FP.ddiv (FP.f2d (FP.i2f ((own_lrem ((p1.toInt64) &&& (4294967295 : Int64)) (((maxF (1 : Int32) (p0 &&& (2147483647 : Int32))).toInt64) + (1 : Int64))).toInt32))) (FP.f2d (FP.i2f (maxF (1 : Int32) (p0 &&& (2147483647 : Int32)))))))])) t
    refine XS.d2fS X0_4.here hx rfl (hb hby at_67) rfl (own_co p0 p1).2.2.2.2.1 rfl ?_
    show Steps p.tables e below (T0_4.setTop (mkF m 68 #[.val (.int p0), .val (.int p1), .val (.int p2), .val (.ref b0_1), .val (.int (maxF (1 : Int32) (p0 &&& (2147483647 : Int32)))), .val (.long (((maxF (1 : Int32) (p0 &&& (2147483647 : Int32))).toInt64) + (1 : Int64))), .second, .val (.int ((own_lrem ((p1.toInt64) &&& (4294967295 : Int64)) (((maxF (1 : Int32) (p0 &&& (2147483647 : Int32))).toInt64) + (1 : Int64))).toInt32)), .val (.float (FP.fdiv (FP.i2f ((own_lrem ((p1.toInt64) &&& (4294967295 : Int64)) (((maxF (1 : Int32) (p0 &&& (2147483647 : Int32))).toInt64) + (1 : Int64))).toInt32)) (FP.i2f (maxF (1 : Int32) (p0 &&& (2147483647 : Int32)))))), .unset, .unset, .unset] [(.float (FP.d2f (FP.ddiv (FP.f2d (FP.i2f ((own_lrem ((p1.toInt64) &&& (4294967295 : Int64)) (((maxF (1 : Int32) (p0 &&& (2147483647 : Int32))).toInt64) + (1 : Int64))).toInt32))) (FP.f2d (FP.i2f (maxF (1 : Int32) (p0 &&& (2147483647 : Int32))))))))])) t
    refine XS.fstore X0_4.here hx rfl (hb hby at_68) rfl (l' := #[.val (.int p0), .val (.int p1), .val (.int p2), .val (.ref b0_1), .val (.int (maxF (1 : Int32) (p0 &&& (2147483647 : Int32)))), .val (.long (((maxF (1 : Int32) (p0 &&& (2147483647 : Int32))).toInt64) + (1 : Int64))), .second, .val (.int ((own_lrem ((p1.toInt64) &&& (4294967295 : Int64)) (((maxF (1 : Int32) (p0 &&& (2147483647 : Int32))).toInt64) + (1 : Int64))).toInt32)), .val (.float (FP.fdiv (FP.i2f ((own_lrem ((p1.toInt64) &&& (4294967295 : Int64)) (((maxF (1 : Int32) (p0 &&& (2147483647 : Int32))).toInt64) + (1 : Int64))).toInt32)) (FP.i2f (maxF (1 : Int32) (p0 &&& (2147483647 : Int32)))))), .val (.float (FP.d2f (FP.ddiv (FP.f2d (FP.i2f ((own_lrem ((p1.toInt64) &&& (4294967295 : Int64)) (((maxF (1 : Int32) (p0 &&& (2147483647 : Int32))).toInt64) + (1 : Int64))).toInt32))) (FP.f2d (FP.i2f (maxF (1 : Int32) (p0 &&& (2147483647 : Int32)))))))), .unset, .unset]) rfl ?_
    show Steps p.tables e below (T0_4.setTop (mkF m 70 #[.val (.int p0), .val (.int p1), .val (.int p2), .val (.ref b0_1), .val (.int (maxF (1 : Int32) (p0 &&& (2147483647 : Int32)))), .val (.long (((maxF (1 : Int32) (p0 &&& (2147483647 : Int32))).toInt64) + (1 : Int64))), .second, .val (.int ((own_lrem ((p1.toInt64) &&& (4294967295 : Int64)) (((maxF (1 : Int32) (p0 &&& (2147483647 : Int32))).toInt64) + (1 : Int64))).toInt32)), .val (.float (FP.fdiv (FP.i2f ((own_lrem ((p1.toInt64) &&& (4294967295 : Int64)) (((maxF (1 : Int32) (p0 &&& (2147483647 : Int32))).toInt64) + (1 : Int64))).toInt32)) (FP.i2f (maxF (1 : Int32) (p0 &&& (2147483647 : Int32)))))), .val (.float (FP.d2f (FP.ddiv (FP.f2d (FP.i2f ((own_lrem ((p1.toInt64) &&& (4294967295 : Int64)) (((maxF (1 : Int32) (p0 &&& (2147483647 : Int32))).toInt64) + (1 : Int64))).toInt32))) (FP.f2d (FP.i2f (maxF (1 : Int32) (p0 &&& (2147483647 : Int32)))))))), .unset, .unset] [])) t
    refine XS.iload X0_4.here hx rfl (hb hby at_70) rfl ?_
    show Steps p.tables e below (T0_4.setTop (mkF m 72 #[.val (.int p0), .val (.int p1), .val (.int p2), .val (.ref b0_1), .val (.int (maxF (1 : Int32) (p0 &&& (2147483647 : Int32)))), .val (.long (((maxF (1 : Int32) (p0 &&& (2147483647 : Int32))).toInt64) + (1 : Int64))), .second, .val (.int ((own_lrem ((p1.toInt64) &&& (4294967295 : Int64)) (((maxF (1 : Int32) (p0 &&& (2147483647 : Int32))).toInt64) + (1 : Int64))).toInt32)), .val (.float (FP.fdiv (FP.i2f ((own_lrem ((p1.toInt64) &&& (4294967295 : Int64)) (((maxF (1 : Int32) (p0 &&& (2147483647 : Int32))).toInt64) + (1 : Int64))).toInt32)) (FP.i2f (maxF (1 : Int32) (p0 &&& (2147483647 : Int32)))))), .val (.float (FP.d2f (FP.ddiv (FP.f2d (FP.i2f ((own_lrem ((p1.toInt64) &&& (4294967295 : Int64)) (((maxF (1 : Int32) (p0 &&& (2147483647 : Int32))).toInt64) + (1 : Int64))).toInt32))) (FP.f2d (FP.i2f (maxF (1 : Int32) (p0 &&& (2147483647 : Int32)))))))), .unset, .unset] [(.int ((own_lrem ((p1.toInt64) &&& (4294967295 : Int64)) (((maxF (1 : Int32) (p0 &&& (2147483647 : Int32))).toInt64) + (1 : Int64))).toInt32))])) t
    refine XS.iload X0_4.here hx rfl (hb hby at_72) rfl ?_
    exact k
  by_cases hc0_2 : ((own_lrem ((p1.toInt64) &&& (4294967295 : Int64)) (((maxF (1 : Int32) (p0 &&& (2147483647 : Int32))).toInt64) + (1 : Int64))).toInt32) = (maxF (1 : Int32) (p0 &&& (2147483647 : Int32)))
  · refine own_fw (A := T0_4.setTop (mkF m 77 #[.val (.int p0), .val (.int p1), .val (.int p2), .val (.ref b0_1), .val (.int (maxF (1 : Int32) (p0 &&& (2147483647 : Int32)))), .val (.long (((maxF (1 : Int32) (p0 &&& (2147483647 : Int32))).toInt64) + (1 : Int64))), .second, .val (.int ((own_lrem ((p1.toInt64) &&& (4294967295 : Int64)) (((maxF (1 : Int32) (p0 &&& (2147483647 : Int32))).toInt64) + (1 : Int64))).toInt32)), .val (.float (FP.fdiv (FP.i2f ((own_lrem ((p1.toInt64) &&& (4294967295 : Int64)) (((maxF (1 : Int32) (p0 &&& (2147483647 : Int32))).toInt64) + (1 : Int64))).toInt32)) (FP.i2f (maxF (1 : Int32) (p0 &&& (2147483647 : Int32)))))), .val (.float (FP.d2f (FP.ddiv (FP.f2d (FP.i2f ((own_lrem ((p1.toInt64) &&& (4294967295 : Int64)) (((maxF (1 : Int32) (p0 &&& (2147483647 : Int32))).toInt64) + (1 : Int64))).toInt32))) (FP.f2d (FP.i2f (maxF (1 : Int32) (p0 &&& (2147483647 : Int32)))))))), .unset, .unset] [])) (fun t k => ?_) ?_
    · show Steps p.tables e below (T0_4.setTop (mkF m 74 #[.val (.int p0), .val (.int p1), .val (.int p2), .val (.ref b0_1), .val (.int (maxF (1 : Int32) (p0 &&& (2147483647 : Int32)))), .val (.long (((maxF (1 : Int32) (p0 &&& (2147483647 : Int32))).toInt64) + (1 : Int64))), .second, .val (.int ((own_lrem ((p1.toInt64) &&& (4294967295 : Int64)) (((maxF (1 : Int32) (p0 &&& (2147483647 : Int32))).toInt64) + (1 : Int64))).toInt32)), .val (.float (FP.fdiv (FP.i2f ((own_lrem ((p1.toInt64) &&& (4294967295 : Int64)) (((maxF (1 : Int32) (p0 &&& (2147483647 : Int32))).toInt64) + (1 : Int64))).toInt32)) (FP.i2f (maxF (1 : Int32) (p0 &&& (2147483647 : Int32)))))), .val (.float (FP.d2f (FP.ddiv (FP.f2d (FP.i2f ((own_lrem ((p1.toInt64) &&& (4294967295 : Int64)) (((maxF (1 : Int32) (p0 &&& (2147483647 : Int32))).toInt64) + (1 : Int64))).toInt32))) (FP.f2d (FP.i2f (maxF (1 : Int32) (p0 &&& (2147483647 : Int32)))))))), .unset, .unset] [(.int (maxF (1 : Int32) (p0 &&& (2147483647 : Int32)))), (.int ((own_lrem ((p1.toInt64) &&& (4294967295 : Int64)) (((maxF (1 : Int32) (p0 &&& (2147483647 : Int32))).toInt64) + (1 : Int64))).toInt32))])) t
      refine XS.icmpNo X0_4.here hx rfl (hb hby at_74) rfl (teq hc0_2).2 ?_
      exact k
    refine own_fw (A := T0_4.setTop (mkF m 93 #[.val (.int p0), .val (.int p1), .val (.int p2), .val (.ref b0_1), .val (.int (maxF (1 : Int32) (p0 &&& (2147483647 : Int32)))), .val (.long (((maxF (1 : Int32) (p0 &&& (2147483647 : Int32))).toInt64) + (1 : Int64))), .second, .val (.int ((own_lrem ((p1.toInt64) &&& (4294967295 : Int64)) (((maxF (1 : Int32) (p0 &&& (2147483647 : Int32))).toInt64) + (1 : Int64))).toInt32)), .val (.float (FP.fdiv (FP.i2f ((own_lrem ((p1.toInt64) &&& (4294967295 : Int64)) (((maxF (1 : Int32) (p0 &&& (2147483647 : Int32))).toInt64) + (1 : Int64))).toInt32)) (FP.i2f (maxF (1 : Int32) (p0 &&& (2147483647 : Int32)))))), .val (.float (FP.d2f (FP.ddiv (FP.f2d (FP.i2f ((own_lrem ((p1.toInt64) &&& (4294967295 : Int64)) (((maxF (1 : Int32) (p0 &&& (2147483647 : Int32))).toInt64) + (1 : Int64))).toInt32))) (FP.f2d (FP.i2f (maxF (1 : Int32) (p0 &&& (2147483647 : Int32)))))))), .val (.int (1 : Int32)), .unset] [(.int ((own_lrem ((p1.toInt64) &&& (4294967295 : Int64)) (((maxF (1 : Int32) (p0 &&& (2147483647 : Int32))).toInt64) + (1 : Int64))).toInt32))])) (fun t k => ?_) ?_
    · show Steps p.tables e below (T0_4.setTop (mkF m 77 #[.val (.int p0), .val (.int p1), .val (.int p2), .val (.ref b0_1), .val (.int (maxF (1 : Int32) (p0 &&& (2147483647 : Int32)))), .val (.long (((maxF (1 : Int32) (p0 &&& (2147483647 : Int32))).toInt64) + (1 : Int64))), .second, .val (.int ((own_lrem ((p1.toInt64) &&& (4294967295 : Int64)) (((maxF (1 : Int32) (p0 &&& (2147483647 : Int32))).toInt64) + (1 : Int64))).toInt32)), .val (.float (FP.fdiv (FP.i2f ((own_lrem ((p1.toInt64) &&& (4294967295 : Int64)) (((maxF (1 : Int32) (p0 &&& (2147483647 : Int32))).toInt64) + (1 : Int64))).toInt32)) (FP.i2f (maxF (1 : Int32) (p0 &&& (2147483647 : Int32)))))), .val (.float (FP.d2f (FP.ddiv (FP.f2d (FP.i2f ((own_lrem ((p1.toInt64) &&& (4294967295 : Int64)) (((maxF (1 : Int32) (p0 &&& (2147483647 : Int32))).toInt64) + (1 : Int64))).toInt32))) (FP.f2d (FP.i2f (maxF (1 : Int32) (p0 &&& (2147483647 : Int32)))))))), .unset, .unset] [])) t
      refine XS.fload X0_4.here hx rfl (hb hby at_77) rfl ?_
      show Steps p.tables e below (T0_4.setTop (mkF m 79 #[.val (.int p0), .val (.int p1), .val (.int p2), .val (.ref b0_1), .val (.int (maxF (1 : Int32) (p0 &&& (2147483647 : Int32)))), .val (.long (((maxF (1 : Int32) (p0 &&& (2147483647 : Int32))).toInt64) + (1 : Int64))), .second, .val (.int ((own_lrem ((p1.toInt64) &&& (4294967295 : Int64)) (((maxF (1 : Int32) (p0 &&& (2147483647 : Int32))).toInt64) + (1 : Int64))).toInt32)), .val (.float (FP.fdiv (FP.i2f ((own_lrem ((p1.toInt64) &&& (4294967295 : Int64)) (((maxF (1 : Int32) (p0 &&& (2147483647 : Int32))).toInt64) + (1 : Int64))).toInt32)) (FP.i2f (maxF (1 : Int32) (p0 &&& (2147483647 : Int32)))))), .val (.float (FP.d2f (FP.ddiv (FP.f2d (FP.i2f ((own_lrem ((p1.toInt64) &&& (4294967295 : Int64)) (((maxF (1 : Int32) (p0 &&& (2147483647 : Int32))).toInt64) + (1 : Int64))).toInt32))) (FP.f2d (FP.i2f (maxF (1 : Int32) (p0 &&& (2147483647 : Int32)))))))), .unset, .unset] [(.float (FP.fdiv (FP.i2f ((own_lrem ((p1.toInt64) &&& (4294967295 : Int64)) (((maxF (1 : Int32) (p0 &&& (2147483647 : Int32))).toInt64) + (1 : Int64))).toInt32)) (FP.i2f (maxF (1 : Int32) (p0 &&& (2147483647 : Int32))))))])) t
      refine XS.fconst1 X0_4.here hx rfl (hb hby at_79) rfl ?_
      show Steps p.tables e below (T0_4.setTop (mkF m 80 #[.val (.int p0), .val (.int p1), .val (.int p2), .val (.ref b0_1), .val (.int (maxF (1 : Int32) (p0 &&& (2147483647 : Int32)))), .val (.long (((maxF (1 : Int32) (p0 &&& (2147483647 : Int32))).toInt64) + (1 : Int64))), .second, .val (.int ((own_lrem ((p1.toInt64) &&& (4294967295 : Int64)) (((maxF (1 : Int32) (p0 &&& (2147483647 : Int32))).toInt64) + (1 : Int64))).toInt32)), .val (.float (FP.fdiv (FP.i2f ((own_lrem ((p1.toInt64) &&& (4294967295 : Int64)) (((maxF (1 : Int32) (p0 &&& (2147483647 : Int32))).toInt64) + (1 : Int64))).toInt32)) (FP.i2f (maxF (1 : Int32) (p0 &&& (2147483647 : Int32)))))), .val (.float (FP.d2f (FP.ddiv (FP.f2d (FP.i2f ((own_lrem ((p1.toInt64) &&& (4294967295 : Int64)) (((maxF (1 : Int32) (p0 &&& (2147483647 : Int32))).toInt64) + (1 : Int64))).toInt32))) (FP.f2d (FP.i2f (maxF (1 : Int32) (p0 &&& (2147483647 : Int32)))))))), .unset, .unset] [(.float FP.fconst1), (.float (FP.fdiv (FP.i2f ((own_lrem ((p1.toInt64) &&& (4294967295 : Int64)) (((maxF (1 : Int32) (p0 &&& (2147483647 : Int32))).toInt64) + (1 : Int64))).toInt32)) (FP.i2f (maxF (1 : Int32) (p0 &&& (2147483647 : Int32))))))])) t
      refine XS.fcmpS X0_4.here hx rfl (hb hby at_80) rfl rfl ?_
      show Steps p.tables e below (T0_4.setTop (mkF m 81 #[.val (.int p0), .val (.int p1), .val (.int p2), .val (.ref b0_1), .val (.int (maxF (1 : Int32) (p0 &&& (2147483647 : Int32)))), .val (.long (((maxF (1 : Int32) (p0 &&& (2147483647 : Int32))).toInt64) + (1 : Int64))), .second, .val (.int ((own_lrem ((p1.toInt64) &&& (4294967295 : Int64)) (((maxF (1 : Int32) (p0 &&& (2147483647 : Int32))).toInt64) + (1 : Int64))).toInt32)), .val (.float (FP.fdiv (FP.i2f ((own_lrem ((p1.toInt64) &&& (4294967295 : Int64)) (((maxF (1 : Int32) (p0 &&& (2147483647 : Int32))).toInt64) + (1 : Int64))).toInt32)) (FP.i2f (maxF (1 : Int32) (p0 &&& (2147483647 : Int32)))))), .val (.float (FP.d2f (FP.ddiv (FP.f2d (FP.i2f ((own_lrem ((p1.toInt64) &&& (4294967295 : Int64)) (((maxF (1 : Int32) (p0 &&& (2147483647 : Int32))).toInt64) + (1 : Int64))).toInt32))) (FP.f2d (FP.i2f (maxF (1 : Int32) (p0 &&& (2147483647 : Int32)))))))), .unset, .unset] [(.int (cmpValue (FP.fcmp (FP.fdiv (FP.i2f ((own_lrem ((p1.toInt64) &&& (4294967295 : Int64)) (((maxF (1 : Int32) (p0 &&& (2147483647 : Int32))).toInt64) + (1 : Int64))).toInt32)) (FP.i2f (maxF (1 : Int32) (p0 &&& (2147483647 : Int32))))) FP.fconst1) .l))])) t
      refine XS.ifNo X0_4.here hx rfl (hb hby at_81) rfl ((if0 _ _).trans (teq (fcmpV_eq ((own_co p0 p1).2.2.2.2.2.2.2.1 hc0_2) (own_co p0 p1).1 .l)).2) ?_
      show Steps p.tables e below (T0_4.setTop (mkF m 84 #[.val (.int p0), .val (.int p1), .val (.int p2), .val (.ref b0_1), .val (.int (maxF (1 : Int32) (p0 &&& (2147483647 : Int32)))), .val (.long (((maxF (1 : Int32) (p0 &&& (2147483647 : Int32))).toInt64) + (1 : Int64))), .second, .val (.int ((own_lrem ((p1.toInt64) &&& (4294967295 : Int64)) (((maxF (1 : Int32) (p0 &&& (2147483647 : Int32))).toInt64) + (1 : Int64))).toInt32)), .val (.float (FP.fdiv (FP.i2f ((own_lrem ((p1.toInt64) &&& (4294967295 : Int64)) (((maxF (1 : Int32) (p0 &&& (2147483647 : Int32))).toInt64) + (1 : Int64))).toInt32)) (FP.i2f (maxF (1 : Int32) (p0 &&& (2147483647 : Int32)))))), .val (.float (FP.d2f (FP.ddiv (FP.f2d (FP.i2f ((own_lrem ((p1.toInt64) &&& (4294967295 : Int64)) (((maxF (1 : Int32) (p0 &&& (2147483647 : Int32))).toInt64) + (1 : Int64))).toInt32))) (FP.f2d (FP.i2f (maxF (1 : Int32) (p0 &&& (2147483647 : Int32)))))))), .unset, .unset] [])) t
      refine XS.iconst X0_4.here hx rfl (hb hby at_84) ?_
      show Steps p.tables e below (T0_4.setTop (mkF m 85 #[.val (.int p0), .val (.int p1), .val (.int p2), .val (.ref b0_1), .val (.int (maxF (1 : Int32) (p0 &&& (2147483647 : Int32)))), .val (.long (((maxF (1 : Int32) (p0 &&& (2147483647 : Int32))).toInt64) + (1 : Int64))), .second, .val (.int ((own_lrem ((p1.toInt64) &&& (4294967295 : Int64)) (((maxF (1 : Int32) (p0 &&& (2147483647 : Int32))).toInt64) + (1 : Int64))).toInt32)), .val (.float (FP.fdiv (FP.i2f ((own_lrem ((p1.toInt64) &&& (4294967295 : Int64)) (((maxF (1 : Int32) (p0 &&& (2147483647 : Int32))).toInt64) + (1 : Int64))).toInt32)) (FP.i2f (maxF (1 : Int32) (p0 &&& (2147483647 : Int32)))))), .val (.float (FP.d2f (FP.ddiv (FP.f2d (FP.i2f ((own_lrem ((p1.toInt64) &&& (4294967295 : Int64)) (((maxF (1 : Int32) (p0 &&& (2147483647 : Int32))).toInt64) + (1 : Int64))).toInt32))) (FP.f2d (FP.i2f (maxF (1 : Int32) (p0 &&& (2147483647 : Int32)))))))), .unset, .unset] [(.int (1 : Int32))])) t
      refine XS.goto X0_4.here hx rfl (pc0 := 85) (pc' := 89) rfl (hb hby at_85) (by decide) (by decide) ?_
      show Steps p.tables e below (T0_4.setTop (mkF m 89 #[.val (.int p0), .val (.int p1), .val (.int p2), .val (.ref b0_1), .val (.int (maxF (1 : Int32) (p0 &&& (2147483647 : Int32)))), .val (.long (((maxF (1 : Int32) (p0 &&& (2147483647 : Int32))).toInt64) + (1 : Int64))), .second, .val (.int ((own_lrem ((p1.toInt64) &&& (4294967295 : Int64)) (((maxF (1 : Int32) (p0 &&& (2147483647 : Int32))).toInt64) + (1 : Int64))).toInt32)), .val (.float (FP.fdiv (FP.i2f ((own_lrem ((p1.toInt64) &&& (4294967295 : Int64)) (((maxF (1 : Int32) (p0 &&& (2147483647 : Int32))).toInt64) + (1 : Int64))).toInt32)) (FP.i2f (maxF (1 : Int32) (p0 &&& (2147483647 : Int32)))))), .val (.float (FP.d2f (FP.ddiv (FP.f2d (FP.i2f ((own_lrem ((p1.toInt64) &&& (4294967295 : Int64)) (((maxF (1 : Int32) (p0 &&& (2147483647 : Int32))).toInt64) + (1 : Int64))).toInt32))) (FP.f2d (FP.i2f (maxF (1 : Int32) (p0 &&& (2147483647 : Int32)))))))), .unset, .unset] [(.int (1 : Int32))])) t
      refine XS.istore X0_4.here hx rfl (hb hby at_89) rfl (l' := #[.val (.int p0), .val (.int p1), .val (.int p2), .val (.ref b0_1), .val (.int (maxF (1 : Int32) (p0 &&& (2147483647 : Int32)))), .val (.long (((maxF (1 : Int32) (p0 &&& (2147483647 : Int32))).toInt64) + (1 : Int64))), .second, .val (.int ((own_lrem ((p1.toInt64) &&& (4294967295 : Int64)) (((maxF (1 : Int32) (p0 &&& (2147483647 : Int32))).toInt64) + (1 : Int64))).toInt32)), .val (.float (FP.fdiv (FP.i2f ((own_lrem ((p1.toInt64) &&& (4294967295 : Int64)) (((maxF (1 : Int32) (p0 &&& (2147483647 : Int32))).toInt64) + (1 : Int64))).toInt32)) (FP.i2f (maxF (1 : Int32) (p0 &&& (2147483647 : Int32)))))), .val (.float (FP.d2f (FP.ddiv (FP.f2d (FP.i2f ((own_lrem ((p1.toInt64) &&& (4294967295 : Int64)) (((maxF (1 : Int32) (p0 &&& (2147483647 : Int32))).toInt64) + (1 : Int64))).toInt32))) (FP.f2d (FP.i2f (maxF (1 : Int32) (p0 &&& (2147483647 : Int32)))))))), .val (.int (1 : Int32)), .unset]) rfl ?_
      show Steps p.tables e below (T0_4.setTop (mkF m 91 #[.val (.int p0), .val (.int p1), .val (.int p2), .val (.ref b0_1), .val (.int (maxF (1 : Int32) (p0 &&& (2147483647 : Int32)))), .val (.long (((maxF (1 : Int32) (p0 &&& (2147483647 : Int32))).toInt64) + (1 : Int64))), .second, .val (.int ((own_lrem ((p1.toInt64) &&& (4294967295 : Int64)) (((maxF (1 : Int32) (p0 &&& (2147483647 : Int32))).toInt64) + (1 : Int64))).toInt32)), .val (.float (FP.fdiv (FP.i2f ((own_lrem ((p1.toInt64) &&& (4294967295 : Int64)) (((maxF (1 : Int32) (p0 &&& (2147483647 : Int32))).toInt64) + (1 : Int64))).toInt32)) (FP.i2f (maxF (1 : Int32) (p0 &&& (2147483647 : Int32)))))), .val (.float (FP.d2f (FP.ddiv (FP.f2d (FP.i2f ((own_lrem ((p1.toInt64) &&& (4294967295 : Int64)) (((maxF (1 : Int32) (p0 &&& (2147483647 : Int32))).toInt64) + (1 : Int64))).toInt32))) (FP.f2d (FP.i2f (maxF (1 : Int32) (p0 &&& (2147483647 : Int32)))))))), .val (.int (1 : Int32)), .unset] [])) t
      refine XS.iload X0_4.here hx rfl (hb hby at_91) rfl ?_
      exact k
    by_cases hc0_3 : ((own_lrem ((p1.toInt64) &&& (4294967295 : Int64)) (((maxF (1 : Int32) (p0 &&& (2147483647 : Int32))).toInt64) + (1 : Int64))).toInt32) = (0 : Int32)
    · refine own_fw (A := T0_4.setTop (mkF m 96 #[.val (.int p0), .val (.int p1), .val (.int p2), .val (.ref b0_1), .val (.int (maxF (1 : Int32) (p0 &&& (2147483647 : Int32)))), .val (.long (((maxF (1 : Int32) (p0 &&& (2147483647 : Int32))).toInt64) + (1 : Int64))), .second, .val (.int ((own_lrem ((p1.toInt64) &&& (4294967295 : Int64)) (((maxF (1 : Int32) (p0 &&& (2147483647 : Int32))).toInt64) + (1 : Int64))).toInt32)), .val (.float (FP.fdiv (FP.i2f ((own_lrem ((p1.toInt64) &&& (4294967295 : Int64)) (((maxF (1 : Int32) (p0 &&& (2147483647 : Int32))).toInt64) + (1 : Int64))).toInt32)) (FP.i2f (maxF (1 : Int32) (p0 &&& (2147483647 : Int32)))))), .val (.float (FP.d2f (FP.ddiv (FP.f2d (FP.i2f ((own_lrem ((p1.toInt64) &&& (4294967295 : Int64)) (((maxF (1 : Int32) (p0 &&& (2147483647 : Int32))).toInt64) + (1 : Int64))).toInt32))) (FP.f2d (FP.i2f (maxF (1 : Int32) (p0 &&& (2147483647 : Int32)))))))), .val (.int (1 : Int32)), .unset] [])) (fun t k => ?_) ?_
      · show Steps p.tables e below (T0_4.setTop (mkF m 93 #[.val (.int p0), .val (.int p1), .val (.int p2), .val (.ref b0_1), .val (.int (maxF (1 : Int32) (p0 &&& (2147483647 : Int32)))), .val (.long (((maxF (1 : Int32) (p0 &&& (2147483647 : Int32))).toInt64) + (1 : Int64))), .second, .val (.int ((own_lrem ((p1.toInt64) &&& (4294967295 : Int64)) (((maxF (1 : Int32) (p0 &&& (2147483647 : Int32))).toInt64) + (1 : Int64))).toInt32)), .val (.float (FP.fdiv (FP.i2f ((own_lrem ((p1.toInt64) &&& (4294967295 : Int64)) (((maxF (1 : Int32) (p0 &&& (2147483647 : Int32))).toInt64) + (1 : Int64))).toInt32)) (FP.i2f (maxF (1 : Int32) (p0 &&& (2147483647 : Int32)))))), .val (.float (FP.d2f (FP.ddiv (FP.f2d (FP.i2f ((own_lrem ((p1.toInt64) &&& (4294967295 : Int64)) (((maxF (1 : Int32) (p0 &&& (2147483647 : Int32))).toInt64) + (1 : Int64))).toInt32))) (FP.f2d (FP.i2f (maxF (1 : Int32) (p0 &&& (2147483647 : Int32)))))))), .val (.int (1 : Int32)), .unset] [(.int ((own_lrem ((p1.toInt64) &&& (4294967295 : Int64)) (((maxF (1 : Int32) (p0 &&& (2147483647 : Int32))).toInt64) + (1 : Int64))).toInt32))])) t
        refine XS.ifNo X0_4.here hx rfl (hb hby at_93) rfl ((if0 _ _).trans (teq hc0_3).2) ?_
        exact k
      refine own_fw (A := T0_4.setTop (mkF m 147 #[.val (.int p0), .val (.int p1), .val (.int p2), .val (.ref b0_1), .val (.int (maxF (1 : Int32) (p0 &&& (2147483647 : Int32)))), .val (.long (((maxF (1 : Int32) (p0 &&& (2147483647 : Int32))).toInt64) + (1 : Int64))), .second, .val (.int ((own_lrem ((p1.toInt64) &&& (4294967295 : Int64)) (((maxF (1 : Int32) (p0 &&& (2147483647 : Int32))).toInt64) + (1 : Int64))).toInt32)), .val (.float (FP.fdiv (FP.i2f ((own_lrem ((p1.toInt64) &&& (4294967295 : Int64)) (((maxF (1 : Int32) (p0 &&& (2147483647 : Int32))).toInt64) + (1 : Int64))).toInt32)) (FP.i2f (maxF (1 : Int32) (p0 &&& (2147483647 : Int32)))))), .val (.float (FP.d2f (FP.ddiv (FP.f2d (FP.i2f ((own_lrem ((p1.toInt64) &&& (4294967295 : Int64)) (((maxF (1 : Int32) (p0 &&& (2147483647 : Int32))).toInt64) + (1 : Int64))).toInt32))) (FP.f2d (FP.i2f (maxF (1 : Int32) (p0 &&& (2147483647 : Int32)))))))), .val (.int (1 : Int32)), .val (.int (1 : Int32))] [(.int (1 : Int32))])) (fun t k => ?_) ?_
      · show Steps p.tables e below (T0_4.setTop (mkF m 96 #[.val (.int p0), .val (.int p1), .val (.int p2), .val (.ref b0_1), .val (.int (maxF (1 : Int32) (p0 &&& (2147483647 : Int32)))), .val (.long (((maxF (1 : Int32) (p0 &&& (2147483647 : Int32))).toInt64) + (1 : Int64))), .second, .val (.int ((own_lrem ((p1.toInt64) &&& (4294967295 : Int64)) (((maxF (1 : Int32) (p0 &&& (2147483647 : Int32))).toInt64) + (1 : Int64))).toInt32)), .val (.float (FP.fdiv (FP.i2f ((own_lrem ((p1.toInt64) &&& (4294967295 : Int64)) (((maxF (1 : Int32) (p0 &&& (2147483647 : Int32))).toInt64) + (1 : Int64))).toInt32)) (FP.i2f (maxF (1 : Int32) (p0 &&& (2147483647 : Int32)))))), .val (.float (FP.d2f (FP.ddiv (FP.f2d (FP.i2f ((own_lrem ((p1.toInt64) &&& (4294967295 : Int64)) (((maxF (1 : Int32) (p0 &&& (2147483647 : Int32))).toInt64) + (1 : Int64))).toInt32))) (FP.f2d (FP.i2f (maxF (1 : Int32) (p0 &&& (2147483647 : Int32)))))))), .val (.int (1 : Int32)), .unset] [])) t
        refine XS.fload X0_4.here hx rfl (hb hby at_96) rfl ?_
        show Steps p.tables e below (T0_4.setTop (mkF m 98 #[.val (.int p0), .val (.int p1), .val (.int p2), .val (.ref b0_1), .val (.int (maxF (1 : Int32) (p0 &&& (2147483647 : Int32)))), .val (.long (((maxF (1 : Int32) (p0 &&& (2147483647 : Int32))).toInt64) + (1 : Int64))), .second, .val (.int ((own_lrem ((p1.toInt64) &&& (4294967295 : Int64)) (((maxF (1 : Int32) (p0 &&& (2147483647 : Int32))).toInt64) + (1 : Int64))).toInt32)), .val (.float (FP.fdiv (FP.i2f ((own_lrem ((p1.toInt64) &&& (4294967295 : Int64)) (((maxF (1 : Int32) (p0 &&& (2147483647 : Int32))).toInt64) + (1 : Int64))).toInt32)) (FP.i2f (maxF (1 : Int32) (p0 &&& (2147483647 : Int32)))))), .val (.float (FP.d2f (FP.ddiv (FP.f2d (FP.i2f ((own_lrem ((p1.toInt64) &&& (4294967295 : Int64)) (((maxF (1 : Int32) (p0 &&& (2147483647 : Int32))).toInt64) + (1 : Int64))).toInt32))) (FP.f2d (FP.i2f (maxF (1 : Int32) (p0 &&& (2147483647 : Int32)))))))), .val (.int (1 : Int32)), .unset] [(.float (FP.fdiv (FP.i2f ((own_lrem ((p1.toInt64) &&& (4294967295 : Int64)) (((maxF (1 : Int32) (p0 &&& (2147483647 : Int32))).toInt64) + (1 : Int64))).toInt32)) (FP.i2f (maxF (1 : Int32) (p0 &&& (2147483647 : Int32))))))])) t
        refine XS.fconst0 X0_4.here hx rfl (hb hby at_98) rfl ?_
        show Steps p.tables e below (T0_4.setTop (mkF m 99 #[.val (.int p0), .val (.int p1), .val (.int p2), .val (.ref b0_1), .val (.int (maxF (1 : Int32) (p0 &&& (2147483647 : Int32)))), .val (.long (((maxF (1 : Int32) (p0 &&& (2147483647 : Int32))).toInt64) + (1 : Int64))), .second, .val (.int ((own_lrem ((p1.toInt64) &&& (4294967295 : Int64)) (((maxF (1 : Int32) (p0 &&& (2147483647 : Int32))).toInt64) + (1 : Int64))).toInt32)), .val (.float (FP.fdiv (FP.i2f ((own_lrem ((p1.toInt64) &&& (4294967295 : Int64)) (((maxF (1 : Int32) (p0 &&& (2147483647 : Int32))).toInt64) + (1 : Int64))).toInt32)) (FP.i2f (maxF (1 : Int32) (p0 &&& (2147483647 : Int32)))))), .val (.float (FP.d2f (FP.ddiv (FP.f2d (FP.i2f ((own_lrem ((p1.toInt64) &&& (4294967295 : Int64)) (((maxF (1 : Int32) (p0 &&& (2147483647 : Int32))).toInt64) + (1 : Int64))).toInt32))) (FP.f2d (FP.i2f (maxF (1 : Int32) (p0 &&& (2147483647 : Int32)))))))), .val (.int (1 : Int32)), .unset] [(.float FP.fconst0), (.float (FP.fdiv (FP.i2f ((own_lrem ((p1.toInt64) &&& (4294967295 : Int64)) (((maxF (1 : Int32) (p0 &&& (2147483647 : Int32))).toInt64) + (1 : Int64))).toInt32)) (FP.i2f (maxF (1 : Int32) (p0 &&& (2147483647 : Int32))))))])) t
        refine XS.fcmpS X0_4.here hx rfl (hb hby at_99) rfl rfl ?_
        show Steps p.tables e below (T0_4.setTop (mkF m 100 #[.val (.int p0), .val (.int p1), .val (.int p2), .val (.ref b0_1), .val (.int (maxF (1 : Int32) (p0 &&& (2147483647 : Int32)))), .val (.long (((maxF (1 : Int32) (p0 &&& (2147483647 : Int32))).toInt64) + (1 : Int64))), .second, .val (.int ((own_lrem ((p1.toInt64) &&& (4294967295 : Int64)) (((maxF (1 : Int32) (p0 &&& (2147483647 : Int32))).toInt64) + (1 : Int64))).toInt32)), .val (.float (FP.fdiv (FP.i2f ((own_lrem ((p1.toInt64) &&& (4294967295 : Int64)) (((maxF (1 : Int32) (p0 &&& (2147483647 : Int32))).toInt64) + (1 : Int64))).toInt32)) (FP.i2f (maxF (1 : Int32) (p0 &&& (2147483647 : Int32)))))), .val (.float (FP.d2f (FP.ddiv (FP.f2d (FP.i2f ((own_lrem ((p1.toInt64) &&& (4294967295 : Int64)) (((maxF (1 : Int32) (p0 &&& (2147483647 : Int32))).toInt64) + (1 : Int64))).toInt32))) (FP.f2d (FP.i2f (maxF (1 : Int32) (p0 &&& (2147483647 : Int32)))))))), .val (.int (1 : Int32)), .unset] [(.int (cmpValue (FP.fcmp (FP.fdiv (FP.i2f ((own_lrem ((p1.toInt64) &&& (4294967295 : Int64)) (((maxF (1 : Int32) (p0 &&& (2147483647 : Int32))).toInt64) + (1 : Int64))).toInt32)) (FP.i2f (maxF (1 : Int32) (p0 &&& (2147483647 : Int32))))) FP.fconst0) .l))])) t
        refine XS.ifNo X0_4.here hx rfl (hb hby at_100) rfl ((if0 _ _).trans (teq (fcmpV_eq ((own_co p0 p1).2.2.2.2.2.2.1 hc0_3) (own_co p0 p1).1 .l)).2) ?_
        show Steps p.tables e below (T0_4.setTop (mkF m 103 #[.val (.int p0), .val (.int p1), .val (.int p2), .val (.ref b0_1), .val (.int (maxF (1 : Int32) (p0 &&& (2147483647 : Int32)))), .val (.long (((maxF (1 : Int32) (p0 &&& (2147483647 : Int32))).toInt64) + (1 : Int64))), .second, .val (.int ((own_lrem ((p1.toInt64) &&& (4294967295 : Int64)) (((maxF (1 : Int32) (p0 &&& (2147483647 : Int32))).toInt64) + (1 : Int64))).toInt32)), .val (.float (FP.fdiv (FP.i2f ((own_lrem ((p1.toInt64) &&& (4294967295 : Int64)) (((maxF (1 : Int32) (p0 &&& (2147483647 : Int32))).toInt64) + (1 : Int64))).toInt32)) (FP.i2f (maxF (1 : Int32) (p0 &&& (2147483647 : Int32)))))), .val (.float (FP.d2f (FP.ddiv (FP.f2d (FP.i2f ((own_lrem ((p1.toInt64) &&& (4294967295 : Int64)) (((maxF (1 : Int32) (p0 &&& (2147483647 : Int32))).toInt64) + (1 : Int64))).toInt32))) (FP.f2d (FP.i2f (maxF (1 : Int32) (p0 &&& (2147483647 : Int32)))))))), .val (.int (1 : Int32)), .unset] [])) t
        refine XS.iconst X0_4.here hx rfl (hb hby at_103) ?_
        show Steps p.tables e below (T0_4.setTop (mkF m 104 #[.val (.int p0), .val (.int p1), .val (.int p2), .val (.ref b0_1), .val (.int (maxF (1 : Int32) (p0 &&& (2147483647 : Int32)))), .val (.long (((maxF (1 : Int32) (p0 &&& (2147483647 : Int32))).toInt64) + (1 : Int64))), .second, .val (.int ((own_lrem ((p1.toInt64) &&& (4294967295 : Int64)) (((maxF (1 : Int32) (p0 &&& (2147483647 : Int32))).toInt64) + (1 : Int64))).toInt32)), .val (.float (FP.fdiv (FP.i2f ((own_lrem ((p1.toInt64) &&& (4294967295 : Int64)) (((maxF (1 : Int32) (p0 &&& (2147483647 : Int32))).toInt64) + (1 : Int64))).toInt32)) (FP.i2f (maxF (1 : Int32) (p0 &&& (2147483647 : Int32)))))), .val (.float (FP.d2f (FP.ddiv (FP.f2d (FP.i2f ((own_lrem ((p1.toInt64) &&& (4294967295 : Int64)) (((maxF (1 : Int32) (p0 &&& (2147483647 : Int32))).toInt64) + (1 : Int64))).toInt32))) (FP.f2d (FP.i2f (maxF (1 : Int32) (p0 &&& (2147483647 : Int32)))))))), .val (.int (1 : Int32)), .unset] [(.int (1 : Int32))])) t
        refine XS.goto X0_4.here hx rfl (pc0 := 104) (pc' := 108) rfl (hb hby at_104) (by decide) (by decide) ?_
        show Steps p.tables e below (T0_4.setTop (mkF m 108 #[.val (.int p0), .val (.int p1), .val (.int p2), .val (.ref b0_1), .val (.int (maxF (1 : Int32) (p0 &&& (2147483647 : Int32)))), .val (.long (((maxF (1 : Int32) (p0 &&& (2147483647 : Int32))).toInt64) + (1 : Int64))), .second, .val (.int ((own_lrem ((p1.toInt64) &&& (4294967295 : Int64)) (((maxF (1 : Int32) (p0 &&& (2147483647 : Int32))).toInt64) + (1 : Int64))).toInt32)), .val (.float (FP.fdiv (FP.i2f ((own_lrem ((p1.toInt64) &&& (4294967295 : Int64)) (((maxF (1 : Int32) (p0 &&& (2147483647 : Int32))).toInt64) + (1 : Int64))).toInt32)) (FP.i2f (maxF (1 : Int32) (p0 &&& (2147483647 : Int32)))))), .val (.float (FP.d2f (FP.ddiv (FP.f2d (FP.i2f ((own_lrem ((p1.toInt64) &&& (4294967295 : Int64)) (((maxF (1 : Int32) (p0 &&& (2147483647 : Int32))).toInt64) + (1 : Int64))).toInt32))) (FP.f2d (FP.i2f (maxF (1 : Int32) (p0 &&& (2147483647 : Int32)))))))), .val (.int (1 : Int32)), .unset] [(.int (1 : Int32))])) t
        refine XS.istore X0_4.here hx rfl (hb hby at_108) rfl (l' := #[.val (.int p0), .val (.int p1), .val (.int p2), .val (.ref b0_1), .val (.int (maxF (1 : Int32) (p0 &&& (2147483647 : Int32)))), .val (.long (((maxF (1 : Int32) (p0 &&& (2147483647 : Int32))).toInt64) + (1 : Int64))), .second, .val (.int ((own_lrem ((p1.toInt64) &&& (4294967295 : Int64)) (((maxF (1 : Int32) (p0 &&& (2147483647 : Int32))).toInt64) + (1 : Int64))).toInt32)), .val (.float (FP.fdiv (FP.i2f ((own_lrem ((p1.toInt64) &&& (4294967295 : Int64)) (((maxF (1 : Int32) (p0 &&& (2147483647 : Int32))).toInt64) + (1 : Int64))).toInt32)) (FP.i2f (maxF (1 : Int32) (p0 &&& (2147483647 : Int32)))))), .val (.float (FP.d2f (FP.ddiv (FP.f2d (FP.i2f ((own_lrem ((p1.toInt64) &&& (4294967295 : Int64)) (((maxF (1 : Int32) (p0 &&& (2147483647 : Int32))).toInt64) + (1 : Int64))).toInt32))) (FP.f2d (FP.i2f (maxF (1 : Int32) (p0 &&& (2147483647 : Int32)))))))), .val (.int (1 : Int32)), .val (.int (1 : Int32))]) rfl ?_
        show Steps p.tables e below (T0_4.setTop (mkF m 110 #[.val (.int p0), .val (.int p1), .val (.int p2), .val (.ref b0_1), .val (.int (maxF (1 : Int32) (p0 &&& (2147483647 : Int32)))), .val (.long (((maxF (1 : Int32) (p0 &&& (2147483647 : Int32))).toInt64) + (1 : Int64))), .second, .val (.int ((own_lrem ((p1.toInt64) &&& (4294967295 : Int64)) (((maxF (1 : Int32) (p0 &&& (2147483647 : Int32))).toInt64) + (1 : Int64))).toInt32)), .val (.float (FP.fdiv (FP.i2f ((own_lrem ((p1.toInt64) &&& (4294967295 : Int64)) (((maxF (1 : Int32) (p0 &&& (2147483647 : Int32))).toInt64) + (1 : Int64))).toInt32)) (FP.i2f (maxF (1 : Int32) (p0 &&& (2147483647 : Int32)))))), .val (.float (FP.d2f (FP.ddiv (FP.f2d (FP.i2f ((own_lrem ((p1.toInt64) &&& (4294967295 : Int64)) (((maxF (1 : Int32) (p0 &&& (2147483647 : Int32))).toInt64) + (1 : Int64))).toInt32))) (FP.f2d (FP.i2f (maxF (1 : Int32) (p0 &&& (2147483647 : Int32)))))))), .val (.int (1 : Int32)), .val (.int (1 : Int32))] [])) t
        refine XS.fload X0_4.here hx rfl (hb hby at_110) rfl ?_
        show Steps p.tables e below (T0_4.setTop (mkF m 112 #[.val (.int p0), .val (.int p1), .val (.int p2), .val (.ref b0_1), .val (.int (maxF (1 : Int32) (p0 &&& (2147483647 : Int32)))), .val (.long (((maxF (1 : Int32) (p0 &&& (2147483647 : Int32))).toInt64) + (1 : Int64))), .second, .val (.int ((own_lrem ((p1.toInt64) &&& (4294967295 : Int64)) (((maxF (1 : Int32) (p0 &&& (2147483647 : Int32))).toInt64) + (1 : Int64))).toInt32)), .val (.float (FP.fdiv (FP.i2f ((own_lrem ((p1.toInt64) &&& (4294967295 : Int64)) (((maxF (1 : Int32) (p0 &&& (2147483647 : Int32))).toInt64) + (1 : Int64))).toInt32)) (FP.i2f (maxF (1 : Int32) (p0 &&& (2147483647 : Int32)))))), .val (.float (FP.d2f (FP.ddiv (FP.f2d (FP.i2f ((own_lrem ((p1.toInt64) &&& (4294967295 : Int64)) (((maxF (1 : Int32) (p0 &&& (2147483647 : Int32))).toInt64) + (1 : Int64))).toInt32))) (FP.f2d (FP.i2f (maxF (1 : Int32) (p0 &&& (2147483647 : Int32)))))))), .val (.int (1 : Int32)), .val (.int (1 : Int32))] [(.float (FP.fdiv (FP.i2f ((own_lrem ((p1.toInt64) &&& (4294967295 : Int64)) (((maxF (1 : Int32) (p0 &&& (2147483647 : Int32))).toInt64) + (1 : Int64))).toInt32)) (FP.i2f (maxF (1 : Int32) (p0 &&& (2147483647 : Int32))))))])) t
        refine XS.fload X0_4.here hx rfl (hb hby at_112) rfl ?_
        show Steps p.tables e below (T0_4.setTop (mkF m 114 #[.val (.int p0), .val (.int p1), .val (.int p2), .val (.ref b0_1), .val (.int (maxF (1 : Int32) (p0 &&& (2147483647 : Int32)))), .val (.long (((maxF (1 : Int32) (p0 &&& (2147483647 : Int32))).toInt64) + (1 : Int64))), .second, .val (.int ((own_lrem ((p1.toInt64) &&& (4294967295 : Int64)) (((maxF (1 : Int32) (p0 &&& (2147483647 : Int32))).toInt64) + (1 : Int64))).toInt32)), .val (.float (FP.fdiv (FP.i2f ((own_lrem ((p1.toInt64) &&& (4294967295 : Int64)) (((maxF (1 : Int32) (p0 &&& (2147483647 : Int32))).toInt64) + (1 : Int64))).toInt32)) (FP.i2f (maxF (1 : Int32) (p0 &&& (2147483647 : Int32)))))), .val (.float (FP.d2f (FP.ddiv (FP.f2d (FP.i2f ((own_lrem ((p1.toInt64) &&& (4294967295 : Int64)) (((maxF (1 : Int32) (p0 &&& (2147483647 : Int32))).toInt64) + (1 : Int64))).toInt32))) (FP.f2d (FP.i2f (maxF (1 : Int32) (p0 &&& (2147483647 : Int32)))))))), .val (.int (1 : Int32)), .val (.int (1 : Int32))] [(.float (FP.d2f (FP.ddiv (FP.f2d (FP.i2f ((own_lrem ((p1.toInt64) &&& (4294967295 : Int64)) (((maxF (1 : Int32) (p0 &&& (2147483647 : Int32))).toInt64) + (1 : Int64))).toInt32))) (FP.f2d (FP.i2f (maxF (1 : Int32) (p0 &&& (2147483647 : Int32)))))))), (.float (FP.fdiv (FP.i2f ((own_lrem ((p1.toInt64) &&& (4294967295 : Int64)) (((maxF (1 : Int32) (p0 &&& (2147483647 : Int32))).toInt64) + (1 : Int64))).toInt32)) (FP.i2f (maxF (1 : Int32) (p0 &&& (2147483647 : Int32))))))])) t
        refine XS.fcmpS X0_4.here hx rfl (hb hby at_114) rfl rfl ?_
        show Steps p.tables e below (T0_4.setTop (mkF m 115 #[.val (.int p0), .val (.int p1), .val (.int p2), .val (.ref b0_1), .val (.int (maxF (1 : Int32) (p0 &&& (2147483647 : Int32)))), .val (.long (((maxF (1 : Int32) (p0 &&& (2147483647 : Int32))).toInt64) + (1 : Int64))), .second, .val (.int ((own_lrem ((p1.toInt64) &&& (4294967295 : Int64)) (((maxF (1 : Int32) (p0 &&& (2147483647 : Int32))).toInt64) + (1 : Int64))).toInt32)), .val (.float (FP.fdiv (FP.i2f ((own_lrem ((p1.toInt64) &&& (4294967295 : Int64)) (((maxF (1 : Int32) (p0 &&& (2147483647 : Int32))).toInt64) + (1 : Int64))).toInt32)) (FP.i2f (maxF (1 : Int32) (p0 &&& (2147483647 : Int32)))))), .val (.float (FP.d2f (FP.ddiv (FP.f2d (FP.i2f ((own_lrem ((p1.toInt64) &&& (4294967295 : Int64)) (((maxF (1 : Int32) (p0 &&& (2147483647 : Int32))).toInt64) + (1 : Int64))).toInt32))) (FP.f2d (FP.i2f (maxF (1 : Int32) (p0 &&& (2147483647 : Int32)))))))), .val (.int (1 : Int32)), .val (.int (1 : Int32))] [(.int (cmpValue (FP.fcmp (FP.fdiv (FP.i2f ((own_lrem ((p1.toInt64) &&& (4294967295 : Int64)) (((maxF (1 : Int32) (p0 &&& (2147483647 : Int32))).toInt64) + (1 : Int64))).toInt32)) (FP.i2f (maxF (1 : Int32) (p0 &&& (2147483647 : Int32))))) (FP.d2f (FP.ddiv (FP.f2d (FP.i2f ((own_lrem ((p1.toInt64) &&& (4294967295 : Int64)) (((maxF (1 : Int32) (p0 &&& (2147483647 : Int32))).toInt64) + (1 : Int64))).toInt32))) (FP.f2d (FP.i2f (maxF (1 : Int32) (p0 &&& (2147483647 : Int32)))))))) .l))])) t
        refine XS.ifNo X0_4.here hx rfl (hb hby at_115) rfl ((if0 _ _).trans (teq (fcmpV_eq (own_co p0 p1).2.2.2.2.2.1 (own_co p0 p1).1 .l)).2) ?_
        show Steps p.tables e below (T0_4.setTop (mkF m 118 #[.val (.int p0), .val (.int p1), .val (.int p2), .val (.ref b0_1), .val (.int (maxF (1 : Int32) (p0 &&& (2147483647 : Int32)))), .val (.long (((maxF (1 : Int32) (p0 &&& (2147483647 : Int32))).toInt64) + (1 : Int64))), .second, .val (.int ((own_lrem ((p1.toInt64) &&& (4294967295 : Int64)) (((maxF (1 : Int32) (p0 &&& (2147483647 : Int32))).toInt64) + (1 : Int64))).toInt32)), .val (.float (FP.fdiv (FP.i2f ((own_lrem ((p1.toInt64) &&& (4294967295 : Int64)) (((maxF (1 : Int32) (p0 &&& (2147483647 : Int32))).toInt64) + (1 : Int64))).toInt32)) (FP.i2f (maxF (1 : Int32) (p0 &&& (2147483647 : Int32)))))), .val (.float (FP.d2f (FP.ddiv (FP.f2d (FP.i2f ((own_lrem ((p1.toInt64) &&& (4294967295 : Int64)) (((maxF (1 : Int32) (p0 &&& (2147483647 : Int32))).toInt64) + (1 : Int64))).toInt32))) (FP.f2d (FP.i2f (maxF (1 : Int32) (p0 &&& (2147483647 : Int32)))))))), .val (.int (1 : Int32)), .val (.int (1 : Int32))] [])) t
        refine XS.fconst0 X0_4.here hx rfl (hb hby at_118) rfl ?_
        show Steps p.tables e below (T0_4.setTop (mkF m 119 #[.val (.int p0), .val (.int p1), .val (.int p2), .val (.ref b0_1), .val (.int (maxF (1 : Int32) (p0 &&& (2147483647 : Int32)))), .val (.long (((maxF (1 : Int32) (p0 &&& (2147483647 : Int32))).toInt64) + (1 : Int64))), .second, .val (.int ((own_lrem ((p1.toInt64) &&& (4294967295 : Int64)) (((maxF (1 : Int32) (p0 &&& (2147483647 : Int32))).toInt64) + (1 : Int64))).toInt32)), .val (.float (FP.fdiv (FP.i2f ((own_lrem ((p1.toInt64) &&& (4294967295 : Int64)) (((maxF (1 : Int32) (p0 &&& (2147483647 : Int32))).toInt64) + (1 : Int64))).toInt32)) (FP.i2f (maxF (1 : Int32) (p0 &&& (2147483647 : Int32)))))), .val (.float (FP.d2f (FP.ddiv (FP.f2d (FP.i2f ((own_lrem ((p1.toInt64) &&& (4294967295 : Int64)) (((maxF (1 : Int32) (p0 &&& (2147483647 : Int32))).toInt64) + (1 : Int64))).toInt32))) (FP.f2d (FP.i2f (maxF (1 : Int32) (p0 &&& (2147483647 : Int32)))))))), .val (.int (1 : Int32)), .val (.int (1 : Int32))] [(.float FP.fconst0)])) t
        refine XS.fload X0_4.here hx rfl (hb hby at_119) rfl ?_
        show Steps p.tables e below (T0_4.setTop (mkF m 121 #[.val (.int p0), .val (.int p1), .val (.int p2), .val (.ref b0_1), .val (.int (maxF (1 : Int32) (p0 &&& (2147483647 : Int32)))), .val (.long (((maxF (1 : Int32) (p0 &&& (2147483647 : Int32))).toInt64) + (1 : Int64))), .second, .val (.int ((own_lrem ((p1.toInt64) &&& (4294967295 : Int64)) (((maxF (1 : Int32) (p0 &&& (2147483647 : Int32))).toInt64) + (1 : Int64))).toInt32)), .val (.float (FP.fdiv (FP.i2f ((own_lrem ((p1.toInt64) &&& (4294967295 : Int64)) (((maxF (1 : Int32) (p0 &&& (2147483647 : Int32))).toInt64) + (1 : Int64))).toInt32)) (FP.i2f (maxF (1 : Int32) (p0 &&& (2147483647 : Int32)))))), .val (.float (FP.d2f (FP.ddiv (FP.f2d (FP.i2f ((own_lrem ((p1.toInt64) &&& (4294967295 : Int64)) (((maxF (1 : Int32) (p0 &&& (2147483647 : Int32))).toInt64) + (1 : Int64))).toInt32))) (FP.f2d (FP.i2f (maxF (1 : Int32) (p0 &&& (2147483647 : Int32)))))))), .val (.int (1 : Int32)), .val (.int (1 : Int32))] [(.float (FP.fdiv (FP.i2f ((own_lrem ((p1.toInt64) &&& (4294967295 : Int64)) (((maxF (1 : Int32) (p0 &&& (2147483647 : Int32))).toInt64) + (1 : Int64))).toInt32)) (FP.i2f (maxF (1 : Int32) (p0 &&& (2147483647 : Int32)))))), (.float FP.fconst0)])) t
        refine XS.fcmpS X0_4.here hx rfl (hb hby at_121) rfl rfl ?_
        show Steps p.tables e below (T0_4.setTop (mkF m 122 #[.val (.int p0), .val (.int p1), .val (.int p2), .val (.ref b0_1), .val (.int (maxF (1 : Int32) (p0 &&& (2147483647 : Int32)))), .val (.long (((maxF (1 : Int32) (p0 &&& (2147483647 : Int32))).toInt64) + (1 : Int64))), .second, .val (.int ((own_lrem ((p1.toInt64) &&& (4294967295 : Int64)) (((maxF (1 : Int32) (p0 &&& (2147483647 : Int32))).toInt64) + (1 : Int64))).toInt32)), .val (.float (FP.fdiv (FP.i2f ((own_lrem ((p1.toInt64) &&& (4294967295 : Int64)) (((maxF (1 : Int32) (p0 &&& (2147483647 : Int32))).toInt64) + (1 : Int64))).toInt32)) (FP.i2f (maxF (1 : Int32) (p0 &&& (2147483647 : Int32)))))), .val (.float (FP.d2f (FP.ddiv (FP.f2d (FP.i2f ((own_lrem ((p1.toInt64) &&& (4294967295 : Int64)) (((maxF (1 : Int32) (p0 &&& (2147483647 : Int32))).toInt64) + (1 : Int64))).toInt32))) (FP.f2d (FP.i2f (maxF (1 : Int32) (p0 &&& (2147483647 : Int32)))))))), .val (.int (1 : Int32)), .val (.int (1 : Int32))] [(.int (cmpValue (FP.fcmp FP.fconst0 (FP.fdiv (FP.i2f ((own_lrem ((p1.toInt64) &&& (4294967295 : Int64)) (((maxF (1 : Int32) (p0 &&& (2147483647 : Int32))).toInt64) + (1 : Int64))).toInt32)) (FP.i2f (maxF (1 : Int32) (p0 &&& (2147483647 : Int32)))))) .g))])) t
        refine XS.ifNo X0_4.here hx rfl (hb hby at_122) rfl ((if0 _ _).trans (flt (own_ge0 (own_co p0 p1).2.2.2.2.2.2.2.2.1.choose_spec.choose_spec)).2.2.1) ?_
        show Steps p.tables e below (T0_4.setTop (mkF m 125 #[.val (.int p0), .val (.int p1), .val (.int p2), .val (.ref b0_1), .val (.int (maxF (1 : Int32) (p0 &&& (2147483647 : Int32)))), .val (.long (((maxF (1 : Int32) (p0 &&& (2147483647 : Int32))).toInt64) + (1 : Int64))), .second, .val (.int ((own_lrem ((p1.toInt64) &&& (4294967295 : Int64)) (((maxF (1 : Int32) (p0 &&& (2147483647 : Int32))).toInt64) + (1 : Int64))).toInt32)), .val (.float (FP.fdiv (FP.i2f ((own_lrem ((p1.toInt64) &&& (4294967295 : Int64)) (((maxF (1 : Int32) (p0 &&& (2147483647 : Int32))).toInt64) + (1 : Int64))).toInt32)) (FP.i2f (maxF (1 : Int32) (p0 &&& (2147483647 : Int32)))))), .val (.float (FP.d2f (FP.ddiv (FP.f2d (FP.i2f ((own_lrem ((p1.toInt64) &&& (4294967295 : Int64)) (((maxF (1 : Int32) (p0 &&& (2147483647 : Int32))).toInt64) + (1 : Int64))).toInt32))) (FP.f2d (FP.i2f (maxF (1 : Int32) (p0 &&& (2147483647 : Int32)))))))), .val (.int (1 : Int32)), .val (.int (1 : Int32))] [])) t
        refine XS.fload X0_4.here hx rfl (hb hby at_125) rfl ?_
        show Steps p.tables e below (T0_4.setTop (mkF m 127 #[.val (.int p0), .val (.int p1), .val (.int p2), .val (.ref b0_1), .val (.int (maxF (1 : Int32) (p0 &&& (2147483647 : Int32)))), .val (.long (((maxF (1 : Int32) (p0 &&& (2147483647 : Int32))).toInt64) + (1 : Int64))), .second, .val (.int ((own_lrem ((p1.toInt64) &&& (4294967295 : Int64)) (((maxF (1 : Int32) (p0 &&& (2147483647 : Int32))).toInt64) + (1 : Int64))).toInt32)), .val (.float (FP.fdiv (FP.i2f ((own_lrem ((p1.toInt64) &&& (4294967295 : Int64)) (((maxF (1 : Int32) (p0 &&& (2147483647 : Int32))).toInt64) + (1 : Int64))).toInt32)) (FP.i2f (maxF (1 : Int32) (p0 &&& (2147483647 : Int32)))))), .val (.float (FP.d2f (FP.ddiv (FP.f2d (FP.i2f ((own_lrem ((p1.toInt64) &&& (4294967295 : Int64)) (((maxF (1 : Int32) (p0 &&& (2147483647 : Int32))).toInt64) + (1 : Int64))).toInt32))) (FP.f2d (FP.i2f (maxF (1 : Int32) (p0 &&& (2147483647 : Int32)))))))), .val (.int (1 : Int32)), .val (.int (1 : Int32))] [(.float (FP.fdiv (FP.i2f ((own_lrem ((p1.toInt64) &&& (4294967295 : Int64)) (((maxF (1 : Int32) (p0 &&& (2147483647 : Int32))).toInt64) + (1 : Int64))).toInt32)) (FP.i2f (maxF (1 : Int32) (p0 &&& (2147483647 : Int32))))))])) t
        refine XS.fconst1 X0_4.here hx rfl (hb hby at_127) rfl ?_
        show Steps p.tables e below (T0_4.setTop (mkF m 128 #[.val (.int p0), .val (.int p1), .val (.int p2), .val (.ref b0_1), .val (.int (maxF (1 : Int32) (p0 &&& (2147483647 : Int32)))), .val (.long (((maxF (1 : Int32) (p0 &&& (2147483647 : Int32))).toInt64) + (1 : Int64))), .second, .val (.int ((own_lrem ((p1.toInt64) &&& (4294967295 : Int64)) (((maxF (1 : Int32) (p0 &&& (2147483647 : Int32))).toInt64) + (1 : Int64))).toInt32)), .val (.float (FP.fdiv (FP.i2f ((own_lrem ((p1.toInt64) &&& (4294967295 : Int64)) (((maxF (1 : Int32) (p0 &&& (2147483647 : Int32))).toInt64) + (1 : Int64))).toInt32)) (FP.i2f (maxF (1 : Int32) (p0 &&& (2147483647 : Int32)))))), .val (.float (FP.d2f (FP.ddiv (FP.f2d (FP.i2f ((own_lrem ((p1.toInt64) &&& (4294967295 : Int64)) (((maxF (1 : Int32) (p0 &&& (2147483647 : Int32))).toInt64) + (1 : Int64))).toInt32))) (FP.f2d (FP.i2f (maxF (1 : Int32) (p0 &&& (2147483647 : Int32)))))))), .val (.int (1 : Int32)), .val (.int (1 : Int32))] [(.float FP.fconst1), (.float (FP.fdiv (FP.i2f ((own_lrem ((p1.toInt64) &&& (4294967295 : Int64)) (((maxF (1 : Int32) (p0 &&& (2147483647 : Int32))).toInt64) + (1 : Int64))).toInt32)) (FP.i2f (maxF (1 : Int32) (p0 &&& (2147483647 : Int32))))))])) t
        refine XS.fcmpS X0_4.here hx rfl (hb hby at_128) rfl rfl ?_
        show Steps p.tables e below (T0_4.setTop (mkF m 129 #[.val (.int p0), .val (.int p1), .val (.int p2), .val (.ref b0_1), .val (.int (maxF (1 : Int32) (p0 &&& (2147483647 : Int32)))), .val (.long (((maxF (1 : Int32) (p0 &&& (2147483647 : Int32))).toInt64) + (1 : Int64))), .second, .val (.int ((own_lrem ((p1.toInt64) &&& (4294967295 : Int64)) (((maxF (1 : Int32) (p0 &&& (2147483647 : Int32))).toInt64) + (1 : Int64))).toInt32)), .val (.float (FP.fdiv (FP.i2f ((own_lrem ((p1.toInt64) &&& (4294967295 : Int64)) (((maxF (1 : Int32) (p0 &&& (2147483647 : Int32))).toInt64) + (1 : Int64))).toInt32)) (FP.i2f (maxF (1 : Int32) (p0 &&& (2147483647 : Int32)))))), .val (.float (FP.d2f (FP.ddiv (FP.f2d (FP.i2f ((own_lrem ((p1.toInt64) &&& (4294967295 : Int64)) (((maxF (1 : Int32) (p0 &&& (2147483647 : Int32))).toInt64) + (1 : Int64))).toInt32))) (FP.f2d (FP.i2f (maxF (1 : Int32) (p0 &&& (2147483647 : Int32)))))))), .val (.int (1 : Int32)), .val (.int (1 : Int32))] [(.int (cmpValue (FP.fcmp (FP.fdiv (FP.i2f ((own_lrem ((p1.toInt64) &&& (4294967295 : Int64)) (((maxF (1 : Int32) (p0 &&& (2147483647 : Int32))).toInt64) + (1 : Int64))).toInt32)) (FP.i2f (maxF (1 : Int32) (p0 &&& (2147483647 : Int32))))) FP.fconst1) .g))])) t
        refine XS.ifNo X0_4.here hx rfl (hb hby at_129) rfl ((if0 _ _).trans (flt (own_le1 (own_co p0 p1).2.2.2.2.2.2.2.2.1.choose_spec.choose_spec (own_co p0 p1).2.2.2.2.2.2.2.2.2)).2.2.1) ?_
        show Steps p.tables e below (T0_4.setTop (mkF m 132 #[.val (.int p0), .val (.int p1), .val (.int p2), .val (.ref b0_1), .val (.int (maxF (1 : Int32) (p0 &&& (2147483647 : Int32)))), .val (.long (((maxF (1 : Int32) (p0 &&& (2147483647 : Int32))).toInt64) + (1 : Int64))), .second, .val (.int ((own_lrem ((p1.toInt64) &&& (4294967295 : Int64)) (((maxF (1 : Int32) (p0 &&& (2147483647 : Int32))).toInt64) + (1 : Int64))).toInt32)), .val (.float (FP.fdiv (FP.i2f ((own_lrem ((p1.toInt64) &&& (4294967295 : Int64)) (((maxF (1 : Int32) (p0 &&& (2147483647 : Int32))).toInt64) + (1 : Int64))).toInt32)) (FP.i2f (maxF (1 : Int32) (p0 &&& (2147483647 : Int32)))))), .val (.float (FP.d2f (FP.ddiv (FP.f2d (FP.i2f ((own_lrem ((p1.toInt64) &&& (4294967295 : Int64)) (((maxF (1 : Int32) (p0 &&& (2147483647 : Int32))).toInt64) + (1 : Int64))).toInt32))) (FP.f2d (FP.i2f (maxF (1 : Int32) (p0 &&& (2147483647 : Int32)))))))), .val (.int (1 : Int32)), .val (.int (1 : Int32))] [])) t
        refine XS.iload X0_4.here hx rfl (hb hby at_132) rfl ?_
        show Steps p.tables e below (T0_4.setTop (mkF m 134 #[.val (.int p0), .val (.int p1), .val (.int p2), .val (.ref b0_1), .val (.int (maxF (1 : Int32) (p0 &&& (2147483647 : Int32)))), .val (.long (((maxF (1 : Int32) (p0 &&& (2147483647 : Int32))).toInt64) + (1 : Int64))), .second, .val (.int ((own_lrem ((p1.toInt64) &&& (4294967295 : Int64)) (((maxF (1 : Int32) (p0 &&& (2147483647 : Int32))).toInt64) + (1 : Int64))).toInt32)), .val (.float (FP.fdiv (FP.i2f ((own_lrem ((p1.toInt64) &&& (4294967295 : Int64)) (((maxF (1 : Int32) (p0 &&& (2147483647 : Int32))).toInt64) + (1 : Int64))).toInt32)) (FP.i2f (maxF (1 : Int32) (p0 &&& (2147483647 : Int32)))))), .val (.float (FP.d2f (FP.ddiv (FP.f2d (FP.i2f ((own_lrem ((p1.toInt64) &&& (4294967295 : Int64)) (((maxF (1 : Int32) (p0 &&& (2147483647 : Int32))).toInt64) + (1 : Int64))).toInt32))) (FP.f2d (FP.i2f (maxF (1 : Int32) (p0 &&& (2147483647 : Int32)))))))), .val (.int (1 : Int32)), .val (.int (1 : Int32))] [(.int (1 : Int32))])) t
        refine XS.ifNo X0_4.here hx rfl (hb hby at_134) rfl ((if0 _ _).trans (feq (by decide : ¬ ((1 : Int32) = (0 : Int32)))).1) ?_
        show Steps p.tables e below (T0_4.setTop (mkF m 137 #[.val (.int p0), .val (.int p1), .val (.int p2), .val (.ref b0_1), .val (.int (maxF (1 : Int32) (p0 &&& (2147483647 : Int32)))), .val (.long (((maxF (1 : Int32) (p0 &&& (2147483647 : Int32))).toInt64) + (1 : Int64))), .second, .val (.int ((own_lrem ((p1.toInt64) &&& (4294967295 : Int64)) (((maxF (1 : Int32) (p0 &&& (2147483647 : Int32))).toInt64) + (1 : Int64))).toInt32)), .val (.float (FP.fdiv (FP.i2f ((own_lrem ((p1.toInt64) &&& (4294967295 : Int64)) (((maxF (1 : Int32) (p0 &&& (2147483647 : Int32))).toInt64) + (1 : Int64))).toInt32)) (FP.i2f (maxF (1 : Int32) (p0 &&& (2147483647 : Int32)))))), .val (.float (FP.d2f (FP.ddiv (FP.f2d (FP.i2f ((own_lrem ((p1.toInt64) &&& (4294967295 : Int64)) (((maxF (1 : Int32) (p0 &&& (2147483647 : Int32))).toInt64) + (1 : Int64))).toInt32))) (FP.f2d (FP.i2f (maxF (1 : Int32) (p0 &&& (2147483647 : Int32)))))))), .val (.int (1 : Int32)), .val (.int (1 : Int32))] [])) t
        refine XS.iload X0_4.here hx rfl (hb hby at_137) rfl ?_
        show Steps p.tables e below (T0_4.setTop (mkF m 139 #[.val (.int p0), .val (.int p1), .val (.int p2), .val (.ref b0_1), .val (.int (maxF (1 : Int32) (p0 &&& (2147483647 : Int32)))), .val (.long (((maxF (1 : Int32) (p0 &&& (2147483647 : Int32))).toInt64) + (1 : Int64))), .second, .val (.int ((own_lrem ((p1.toInt64) &&& (4294967295 : Int64)) (((maxF (1 : Int32) (p0 &&& (2147483647 : Int32))).toInt64) + (1 : Int64))).toInt32)), .val (.float (FP.fdiv (FP.i2f ((own_lrem ((p1.toInt64) &&& (4294967295 : Int64)) (((maxF (1 : Int32) (p0 &&& (2147483647 : Int32))).toInt64) + (1 : Int64))).toInt32)) (FP.i2f (maxF (1 : Int32) (p0 &&& (2147483647 : Int32)))))), .val (.float (FP.d2f (FP.ddiv (FP.f2d (FP.i2f ((own_lrem ((p1.toInt64) &&& (4294967295 : Int64)) (((maxF (1 : Int32) (p0 &&& (2147483647 : Int32))).toInt64) + (1 : Int64))).toInt32))) (FP.f2d (FP.i2f (maxF (1 : Int32) (p0 &&& (2147483647 : Int32)))))))), .val (.int (1 : Int32)), .val (.int (1 : Int32))] [(.int (1 : Int32))])) t
        refine XS.ifNo X0_4.here hx rfl (hb hby at_139) rfl ((if0 _ _).trans (feq (by decide : ¬ ((1 : Int32) = (0 : Int32)))).1) ?_
        show Steps p.tables e below (T0_4.setTop (mkF m 142 #[.val (.int p0), .val (.int p1), .val (.int p2), .val (.ref b0_1), .val (.int (maxF (1 : Int32) (p0 &&& (2147483647 : Int32)))), .val (.long (((maxF (1 : Int32) (p0 &&& (2147483647 : Int32))).toInt64) + (1 : Int64))), .second, .val (.int ((own_lrem ((p1.toInt64) &&& (4294967295 : Int64)) (((maxF (1 : Int32) (p0 &&& (2147483647 : Int32))).toInt64) + (1 : Int64))).toInt32)), .val (.float (FP.fdiv (FP.i2f ((own_lrem ((p1.toInt64) &&& (4294967295 : Int64)) (((maxF (1 : Int32) (p0 &&& (2147483647 : Int32))).toInt64) + (1 : Int64))).toInt32)) (FP.i2f (maxF (1 : Int32) (p0 &&& (2147483647 : Int32)))))), .val (.float (FP.d2f (FP.ddiv (FP.f2d (FP.i2f ((own_lrem ((p1.toInt64) &&& (4294967295 : Int64)) (((maxF (1 : Int32) (p0 &&& (2147483647 : Int32))).toInt64) + (1 : Int64))).toInt32))) (FP.f2d (FP.i2f (maxF (1 : Int32) (p0 &&& (2147483647 : Int32)))))))), .val (.int (1 : Int32)), .val (.int (1 : Int32))] [])) t
        refine XS.iconst X0_4.here hx rfl (hb hby at_142) ?_
        show Steps p.tables e below (T0_4.setTop (mkF m 143 #[.val (.int p0), .val (.int p1), .val (.int p2), .val (.ref b0_1), .val (.int (maxF (1 : Int32) (p0 &&& (2147483647 : Int32)))), .val (.long (((maxF (1 : Int32) (p0 &&& (2147483647 : Int32))).toInt64) + (1 : Int64))), .second, .val (.int ((own_lrem ((p1.toInt64) &&& (4294967295 : Int64)) (((maxF (1 : Int32) (p0 &&& (2147483647 : Int32))).toInt64) + (1 : Int64))).toInt32)), .val (.float (FP.fdiv (FP.i2f ((own_lrem ((p1.toInt64) &&& (4294967295 : Int64)) (((maxF (1 : Int32) (p0 &&& (2147483647 : Int32))).toInt64) + (1 : Int64))).toInt32)) (FP.i2f (maxF (1 : Int32) (p0 &&& (2147483647 : Int32)))))), .val (.float (FP.d2f (FP.ddiv (FP.f2d (FP.i2f ((own_lrem ((p1.toInt64) &&& (4294967295 : Int64)) (((maxF (1 : Int32) (p0 &&& (2147483647 : Int32))).toInt64) + (1 : Int64))).toInt32))) (FP.f2d (FP.i2f (maxF (1 : Int32) (p0 &&& (2147483647 : Int32)))))))), .val (.int (1 : Int32)), .val (.int (1 : Int32))] [(.int (1 : Int32))])) t
        refine XS.goto X0_4.here hx rfl (pc0 := 143) (pc' := 147) rfl (hb hby at_143) (by decide) (by decide) ?_
        exact k
      obtain ⟨fs, hr, hrun, hended, hW, hsame⟩ := X0_4.leave (v := some (.int (nar .boolean (1 : Int32)))) (fun h => by rw [Bd.returns] at h; cases h)
      refine ⟨_, _, retN X0_4 hx (t := .boolean) Bd.returns (by simp) (hb hby at_147) hr, hrun, hended, _, _, rfl, ?_, ⟨_, rfl⟩, hW, hsame.mono (by decide) (by decide)⟩
      have eh : (T0_4.setFrames fs).heap = T0_2.heap := e0_4
      rw [eh]
      exact ⟨rfl, N0_4⟩
    · refine own_fw (A := T0_4.setTop (mkF m 103 #[.val (.int p0), .val (.int p1), .val (.int p2), .val (.ref b0_1), .val (.int (maxF (1 : Int32) (p0 &&& (2147483647 : Int32)))), .val (.long (((maxF (1 : Int32) (p0 &&& (2147483647 : Int32))).toInt64) + (1 : Int64))), .second, .val (.int ((own_lrem ((p1.toInt64) &&& (4294967295 : Int64)) (((maxF (1 : Int32) (p0 &&& (2147483647 : Int32))).toInt64) + (1 : Int64))).toInt32)), .val (.float (FP.fdiv (FP.i2f ((own_lrem ((p1.toInt64) &&& (4294967295 : Int64)) (((maxF (1 : Int32) (p0 &&& (2147483647 : Int32))).toInt64) + (1 : Int64))).toInt32)) (FP.i2f (maxF (1 : Int32) (p0 &&& (2147483647 : Int32)))))), .val (.float (FP.d2f (FP.ddiv (FP.f2d (FP.i2f ((own_lrem ((p1.toInt64) &&& (4294967295 : Int64)) (((maxF (1 : Int32) (p0 &&& (2147483647 : Int32))).toInt64) + (1 : Int64))).toInt32))) (FP.f2d (FP.i2f (maxF (1 : Int32) (p0 &&& (2147483647 : Int32)))))))), .val (.int (1 : Int32)), .unset] [])) (fun t k => ?_) ?_
      · show Steps p.tables e below (T0_4.setTop (mkF m 93 #[.val (.int p0), .val (.int p1), .val (.int p2), .val (.ref b0_1), .val (.int (maxF (1 : Int32) (p0 &&& (2147483647 : Int32)))), .val (.long (((maxF (1 : Int32) (p0 &&& (2147483647 : Int32))).toInt64) + (1 : Int64))), .second, .val (.int ((own_lrem ((p1.toInt64) &&& (4294967295 : Int64)) (((maxF (1 : Int32) (p0 &&& (2147483647 : Int32))).toInt64) + (1 : Int64))).toInt32)), .val (.float (FP.fdiv (FP.i2f ((own_lrem ((p1.toInt64) &&& (4294967295 : Int64)) (((maxF (1 : Int32) (p0 &&& (2147483647 : Int32))).toInt64) + (1 : Int64))).toInt32)) (FP.i2f (maxF (1 : Int32) (p0 &&& (2147483647 : Int32)))))), .val (.float (FP.d2f (FP.ddiv (FP.f2d (FP.i2f ((own_lrem ((p1.toInt64) &&& (4294967295 : Int64)) (((maxF (1 : Int32) (p0 &&& (2147483647 : Int32))).toInt64) + (1 : Int64))).toInt32))) (FP.f2d (FP.i2f (maxF (1 : Int32) (p0 &&& (2147483647 : Int32)))))))), .val (.int (1 : Int32)), .unset] [(.int ((own_lrem ((p1.toInt64) &&& (4294967295 : Int64)) (((maxF (1 : Int32) (p0 &&& (2147483647 : Int32))).toInt64) + (1 : Int64))).toInt32))])) t
        refine XS.ifYes X0_4.here hx rfl (pc0 := 93) (pc' := 103) rfl (hb hby at_93) rfl ((if0 _ _).trans (feq hc0_3).2) (by decide) (by decide) ?_
        exact k
      refine own_fw (A := T0_4.setTop (mkF m 147 #[.val (.int p0), .val (.int p1), .val (.int p2), .val (.ref b0_1), .val (.int (maxF (1 : Int32) (p0 &&& (2147483647 : Int32)))), .val (.long (((maxF (1 : Int32) (p0 &&& (2147483647 : Int32))).toInt64) + (1 : Int64))), .second, .val (.int ((own_lrem ((p1.toInt64) &&& (4294967295 : Int64)) (((maxF (1 : Int32) (p0 &&& (2147483647 : Int32))).toInt64) + (1 : Int64))).toInt32)), .val (.float (FP.fdiv (FP.i2f ((own_lrem ((p1.toInt64) &&& (4294967295 : Int64)) (((maxF (1 : Int32) (p0 &&& (2147483647 : Int32))).toInt64) + (1 : Int64))).toInt32)) (FP.i2f (maxF (1 : Int32) (p0 &&& (2147483647 : Int32)))))), .val (.float (FP.d2f (FP.ddiv (FP.f2d (FP.i2f ((own_lrem ((p1.toInt64) &&& (4294967295 : Int64)) (((maxF (1 : Int32) (p0 &&& (2147483647 : Int32))).toInt64) + (1 : Int64))).toInt32))) (FP.f2d (FP.i2f (maxF (1 : Int32) (p0 &&& (2147483647 : Int32)))))))), .val (.int (1 : Int32)), .val (.int (1 : Int32))] [(.int (1 : Int32))])) (fun t k => ?_) ?_
      · show Steps p.tables e below (T0_4.setTop (mkF m 103 #[.val (.int p0), .val (.int p1), .val (.int p2), .val (.ref b0_1), .val (.int (maxF (1 : Int32) (p0 &&& (2147483647 : Int32)))), .val (.long (((maxF (1 : Int32) (p0 &&& (2147483647 : Int32))).toInt64) + (1 : Int64))), .second, .val (.int ((own_lrem ((p1.toInt64) &&& (4294967295 : Int64)) (((maxF (1 : Int32) (p0 &&& (2147483647 : Int32))).toInt64) + (1 : Int64))).toInt32)), .val (.float (FP.fdiv (FP.i2f ((own_lrem ((p1.toInt64) &&& (4294967295 : Int64)) (((maxF (1 : Int32) (p0 &&& (2147483647 : Int32))).toInt64) + (1 : Int64))).toInt32)) (FP.i2f (maxF (1 : Int32) (p0 &&& (2147483647 : Int32)))))), .val (.float (FP.d2f (FP.ddiv (FP.f2d (FP.i2f ((own_lrem ((p1.toInt64) &&& (4294967295 : Int64)) (((maxF (1 : Int32) (p0 &&& (2147483647 : Int32))).toInt64) + (1 : Int64))).toInt32))) (FP.f2d (FP.i2f (maxF (1 : Int32) (p0 &&& (2147483647 : Int32)))))))), .val (.int (1 : Int32)), .unset] [])) t
        refine XS.iconst X0_4.here hx rfl (hb hby at_103) ?_
        show Steps p.tables e below (T0_4.setTop (mkF m 104 #[.val (.int p0), .val (.int p1), .val (.int p2), .val (.ref b0_1), .val (.int (maxF (1 : Int32) (p0 &&& (2147483647 : Int32)))), .val (.long (((maxF (1 : Int32) (p0 &&& (2147483647 : Int32))).toInt64) + (1 : Int64))), .second, .val (.int ((own_lrem ((p1.toInt64) &&& (4294967295 : Int64)) (((maxF (1 : Int32) (p0 &&& (2147483647 : Int32))).toInt64) + (1 : Int64))).toInt32)), .val (.float (FP.fdiv (FP.i2f ((own_lrem ((p1.toInt64) &&& (4294967295 : Int64)) (((maxF (1 : Int32) (p0 &&& (2147483647 : Int32))).toInt64) + (1 : Int64))).toInt32)) (FP.i2f (maxF (1 : Int32) (p0 &&& (2147483647 : Int32)))))), .val (.float (FP.d2f (FP.ddiv (FP.f2d (FP.i2f ((own_lrem ((p1.toInt64) &&& (4294967295 : Int64)) (((maxF (1 : Int32) (p0 &&& (2147483647 : Int32))).toInt64) + (1 : Int64))).toInt32))) (FP.f2d (FP.i2f (maxF (1 : Int32) (p0 &&& (2147483647 : Int32)))))))), .val (.int (1 : Int32)), .unset] [(.int (1 : Int32))])) t
        refine XS.goto X0_4.here hx rfl (pc0 := 104) (pc' := 108) rfl (hb hby at_104) (by decide) (by decide) ?_
        show Steps p.tables e below (T0_4.setTop (mkF m 108 #[.val (.int p0), .val (.int p1), .val (.int p2), .val (.ref b0_1), .val (.int (maxF (1 : Int32) (p0 &&& (2147483647 : Int32)))), .val (.long (((maxF (1 : Int32) (p0 &&& (2147483647 : Int32))).toInt64) + (1 : Int64))), .second, .val (.int ((own_lrem ((p1.toInt64) &&& (4294967295 : Int64)) (((maxF (1 : Int32) (p0 &&& (2147483647 : Int32))).toInt64) + (1 : Int64))).toInt32)), .val (.float (FP.fdiv (FP.i2f ((own_lrem ((p1.toInt64) &&& (4294967295 : Int64)) (((maxF (1 : Int32) (p0 &&& (2147483647 : Int32))).toInt64) + (1 : Int64))).toInt32)) (FP.i2f (maxF (1 : Int32) (p0 &&& (2147483647 : Int32)))))), .val (.float (FP.d2f (FP.ddiv (FP.f2d (FP.i2f ((own_lrem ((p1.toInt64) &&& (4294967295 : Int64)) (((maxF (1 : Int32) (p0 &&& (2147483647 : Int32))).toInt64) + (1 : Int64))).toInt32))) (FP.f2d (FP.i2f (maxF (1 : Int32) (p0 &&& (2147483647 : Int32)))))))), .val (.int (1 : Int32)), .unset] [(.int (1 : Int32))])) t
        refine XS.istore X0_4.here hx rfl (hb hby at_108) rfl (l' := #[.val (.int p0), .val (.int p1), .val (.int p2), .val (.ref b0_1), .val (.int (maxF (1 : Int32) (p0 &&& (2147483647 : Int32)))), .val (.long (((maxF (1 : Int32) (p0 &&& (2147483647 : Int32))).toInt64) + (1 : Int64))), .second, .val (.int ((own_lrem ((p1.toInt64) &&& (4294967295 : Int64)) (((maxF (1 : Int32) (p0 &&& (2147483647 : Int32))).toInt64) + (1 : Int64))).toInt32)), .val (.float (FP.fdiv (FP.i2f ((own_lrem ((p1.toInt64) &&& (4294967295 : Int64)) (((maxF (1 : Int32) (p0 &&& (2147483647 : Int32))).toInt64) + (1 : Int64))).toInt32)) (FP.i2f (maxF (1 : Int32) (p0 &&& (2147483647 : Int32)))))), .val (.float (FP.d2f (FP.ddiv (FP.f2d (FP.i2f ((own_lrem ((p1.toInt64) &&& (4294967295 : Int64)) (((maxF (1 : Int32) (p0 &&& (2147483647 : Int32))).toInt64) + (1 : Int64))).toInt32))) (FP.f2d (FP.i2f (maxF (1 : Int32) (p0 &&& (2147483647 : Int32)))))))), .val (.int (1 : Int32)), .val (.int (1 : Int32))]) rfl ?_
        show Steps p.tables e below (T0_4.setTop (mkF m 110 #[.val (.int p0), .val (.int p1), .val (.int p2), .val (.ref b0_1), .val (.int (maxF (1 : Int32) (p0 &&& (2147483647 : Int32)))), .val (.long (((maxF (1 : Int32) (p0 &&& (2147483647 : Int32))).toInt64) + (1 : Int64))), .second, .val (.int ((own_lrem ((p1.toInt64) &&& (4294967295 : Int64)) (((maxF (1 : Int32) (p0 &&& (2147483647 : Int32))).toInt64) + (1 : Int64))).toInt32)), .val (.float (FP.fdiv (FP.i2f ((own_lrem ((p1.toInt64) &&& (4294967295 : Int64)) (((maxF (1 : Int32) (p0 &&& (2147483647 : Int32))).toInt64) + (1 : Int64))).toInt32)) (FP.i2f (maxF (1 : Int32) (p0 &&& (2147483647 : Int32)))))), .val (.float (FP.d2f (FP.ddiv (FP.f2d (FP.i2f ((own_lrem ((p1.toInt64) &&& (4294967295 : Int64)) (((maxF (1 : Int32) (p0 &&& (2147483647 : Int32))).toInt64) + (1 : Int64))).toInt32))) (FP.f2d (FP.i2f (maxF (1 : Int32) (p0 &&& (2147483647 : Int32)))))))), .val (.int (1 : Int32)), .val (.int (1 : Int32))] [])) t
        refine XS.fload X0_4.here hx rfl (hb hby at_110) rfl ?_
        show Steps p.tables e below (T0_4.setTop (mkF m 112 #[.val (.int p0), .val (.int p1), .val (.int p2), .val (.ref b0_1), .val (.int (maxF (1 : Int32) (p0 &&& (2147483647 : Int32)))), .val (.long (((maxF (1 : Int32) (p0 &&& (2147483647 : Int32))).toInt64) + (1 : Int64))), .second, .val (.int ((own_lrem ((p1.toInt64) &&& (4294967295 : Int64)) (((maxF (1 : Int32) (p0 &&& (2147483647 : Int32))).toInt64) + (1 : Int64))).toInt32)), .val (.float (FP.fdiv (FP.i2f ((own_lrem ((p1.toInt64) &&& (4294967295 : Int64)) (((maxF (1 : Int32) (p0 &&& (2147483647 : Int32))).toInt64) + (1 : Int64))).toInt32)) (FP.i2f (maxF (1 : Int32) (p0 &&& (2147483647 : Int32)))))), .val (.float (FP.d2f (FP.ddiv (FP.f2d (FP.i2f ((own_lrem ((p1.toInt64) &&& (4294967295 : Int64)) (((maxF (1 : Int32) (p0 &&& (2147483647 : Int32))).toInt64) + (1 : Int64))).toInt32))) (FP.f2d (FP.i2f (maxF (1 : Int32) (p0 &&& (2147483647 : Int32)))))))), .val (.int (1 : Int32)), .val (.int (1 : Int32))] [(.float (FP.fdiv (FP.i2f ((own_lrem ((p1.toInt64) &&& (4294967295 : Int64)) (((maxF (1 : Int32) (p0 &&& (2147483647 : Int32))).toInt64) + (1 : Int64))).toInt32)) (FP.i2f (maxF (1 : Int32) (p0 &&& (2147483647 : Int32))))))])) t
        refine XS.fload X0_4.here hx rfl (hb hby at_112) rfl ?_
        show Steps p.tables e below (T0_4.setTop (mkF m 114 #[.val (.int p0), .val (.int p1), .val (.int p2), .val (.ref b0_1), .val (.int (maxF (1 : Int32) (p0 &&& (2147483647 : Int32)))), .val (.long (((maxF (1 : Int32) (p0 &&& (2147483647 : Int32))).toInt64) + (1 : Int64))), .second, .val (.int ((own_lrem ((p1.toInt64) &&& (4294967295 : Int64)) (((maxF (1 : Int32) (p0 &&& (2147483647 : Int32))).toInt64) + (1 : Int64))).toInt32)), .val (.float (FP.fdiv (FP.i2f ((own_lrem ((p1.toInt64) &&& (4294967295 : Int64)) (((maxF (1 : Int32) (p0 &&& (2147483647 : Int32))).toInt64) + (1 : Int64))).toInt32)) (FP.i2f (maxF (1 : Int32) (p0 &&& (2147483647 : Int32)))))), .val (.float (FP.d2f (FP.ddiv (FP.f2d (FP.i2f ((own_lrem ((p1.toInt64) &&& (4294967295 : Int64)) (((maxF (1 : Int32) (p0 &&& (2147483647 : Int32))).toInt64) + (1 : Int64))).toInt32))) (FP.f2d (FP.i2f (maxF (1 : Int32) (p0 &&& (2147483647 : Int32)))))))), .val (.int (1 : Int32)), .val (.int (1 : Int32))] [(.float (FP.d2f (FP.ddiv (FP.f2d (FP.i2f ((own_lrem ((p1.toInt64) &&& (4294967295 : Int64)) (((maxF (1 : Int32) (p0 &&& (2147483647 : Int32))).toInt64) + (1 : Int64))).toInt32))) (FP.f2d (FP.i2f (maxF (1 : Int32) (p0 &&& (2147483647 : Int32)))))))), (.float (FP.fdiv (FP.i2f ((own_lrem ((p1.toInt64) &&& (4294967295 : Int64)) (((maxF (1 : Int32) (p0 &&& (2147483647 : Int32))).toInt64) + (1 : Int64))).toInt32)) (FP.i2f (maxF (1 : Int32) (p0 &&& (2147483647 : Int32))))))])) t
        refine XS.fcmpS X0_4.here hx rfl (hb hby at_114) rfl rfl ?_
        show Steps p.tables e below (T0_4.setTop (mkF m 115 #[.val (.int p0), .val (.int p1), .val (.int p2), .val (.ref b0_1), .val (.int (maxF (1 : Int32) (p0 &&& (2147483647 : Int32)))), .val (.long (((maxF (1 : Int32) (p0 &&& (2147483647 : Int32))).toInt64) + (1 : Int64))), .second, .val (.int ((own_lrem ((p1.toInt64) &&& (4294967295 : Int64)) (((maxF (1 : Int32) (p0 &&& (2147483647 : Int32))).toInt64) + (1 : Int64))).toInt32)), .val (.float (FP.fdiv (FP.i2f ((own_lrem ((p1.toInt64) &&& (4294967295 : Int64)) (((maxF (1 : Int32) (p0 &&& (2147483647 : Int32))).toInt64) + (1 : Int64))).toInt32)) (FP.i2f (maxF (1 : Int32) (p0 &&& (2147483647 : Int32)))))), .val (.float (FP.d2f (FP.ddiv (FP.f2d (FP.i2f ((own_lrem ((p1.toInt64) &&& (4294967295 : Int64)) (((maxF (1 : Int32) (p0 &&& (2147483647 : Int32))).toInt64) + (1 : Int64))).toInt32))) (FP.f2d (FP.i2f (maxF (1 : Int32) (p0 &&& (2147483647 : Int32)))))))), .val (.int (1 : Int32)), .val (.int (1 : Int32))] [(.int (cmpValue (FP.fcmp (FP.fdiv (FP.i2f ((own_lrem ((p1.toInt64) &&& (4294967295 : Int64)) (((maxF (1 : Int32) (p0 &&& (2147483647 : Int32))).toInt64) + (1 : Int64))).toInt32)) (FP.i2f (maxF (1 : Int32) (p0 &&& (2147483647 : Int32))))) (FP.d2f (FP.ddiv (FP.f2d (FP.i2f ((own_lrem ((p1.toInt64) &&& (4294967295 : Int64)) (((maxF (1 : Int32) (p0 &&& (2147483647 : Int32))).toInt64) + (1 : Int64))).toInt32))) (FP.f2d (FP.i2f (maxF (1 : Int32) (p0 &&& (2147483647 : Int32)))))))) .l))])) t
        refine XS.ifNo X0_4.here hx rfl (hb hby at_115) rfl ((if0 _ _).trans (teq (fcmpV_eq (own_co p0 p1).2.2.2.2.2.1 (own_co p0 p1).1 .l)).2) ?_
        show Steps p.tables e below (T0_4.setTop (mkF m 118 #[.val (.int p0), .val (.int p1), .val (.int p2), .val (.ref b0_1), .val (.int (maxF (1 : Int32) (p0 &&& (2147483647 : Int32)))), .val (.long (((maxF (1 : Int32) (p0 &&& (2147483647 : Int32))).toInt64) + (1 : Int64))), .second, .val (.int ((own_lrem ((p1.toInt64) &&& (4294967295 : Int64)) (((maxF (1 : Int32) (p0 &&& (2147483647 : Int32))).toInt64) + (1 : Int64))).toInt32)), .val (.float (FP.fdiv (FP.i2f ((own_lrem ((p1.toInt64) &&& (4294967295 : Int64)) (((maxF (1 : Int32) (p0 &&& (2147483647 : Int32))).toInt64) + (1 : Int64))).toInt32)) (FP.i2f (maxF (1 : Int32) (p0 &&& (2147483647 : Int32)))))), .val (.float (FP.d2f (FP.ddiv (FP.f2d (FP.i2f ((own_lrem ((p1.toInt64) &&& (4294967295 : Int64)) (((maxF (1 : Int32) (p0 &&& (2147483647 : Int32))).toInt64) + (1 : Int64))).toInt32))) (FP.f2d (FP.i2f (maxF (1 : Int32) (p0 &&& (2147483647 : Int32)))))))), .val (.int (1 : Int32)), .val (.int (1 : Int32))] [])) t
        refine XS.fconst0 X0_4.here hx rfl (hb hby at_118) rfl ?_
        show Steps p.tables e below (T0_4.setTop (mkF m 119 #[.val (.int p0), .val (.int p1), .val (.int p2), .val (.ref b0_1), .val (.int (maxF (1 : Int32) (p0 &&& (2147483647 : Int32)))), .val (.long (((maxF (1 : Int32) (p0 &&& (2147483647 : Int32))).toInt64) + (1 : Int64))), .second, .val (.int ((own_lrem ((p1.toInt64) &&& (4294967295 : Int64)) (((maxF (1 : Int32) (p0 &&& (2147483647 : Int32))).toInt64) + (1 : Int64))).toInt32)), .val (.float (FP.fdiv (FP.i2f ((own_lrem ((p1.toInt64) &&& (4294967295 : Int64)) (((maxF (1 : Int32) (p0 &&& (2147483647 : Int32))).toInt64) + (1 : Int64))).toInt32)) (FP.i2f (maxF (1 : Int32) (p0 &&& (2147483647 : Int32)))))), .val (.float (FP.d2f (FP.ddiv (FP.f2d (FP.i2f ((own_lrem ((p1.toInt64) &&& (4294967295 : Int64)) (((maxF (1 : Int32) (p0 &&& (2147483647 : Int32))).toInt64) + (1 : Int64))).toInt32))) (FP.f2d (FP.i2f (maxF (1 : Int32) (p0 &&& (2147483647 : Int32)))))))), .val (.int (1 : Int32)), .val (.int (1 : Int32))] [(.float FP.fconst0)])) t
        refine XS.fload X0_4.here hx rfl (hb hby at_119) rfl ?_
        show Steps p.tables e below (T0_4.setTop (mkF m 121 #[.val (.int p0), .val (.int p1), .val (.int p2), .val (.ref b0_1), .val (.int (maxF (1 : Int32) (p0 &&& (2147483647 : Int32)))), .val (.long (((maxF (1 : Int32) (p0 &&& (2147483647 : Int32))).toInt64) + (1 : Int64))), .second, .val (.int ((own_lrem ((p1.toInt64) &&& (4294967295 : Int64)) (((maxF (1 : Int32) (p0 &&& (2147483647 : Int32))).toInt64) + (1 : Int64))).toInt32)), .val (.float (FP.fdiv (FP.i2f ((own_lrem ((p1.toInt64) &&& (4294967295 : Int64)) (((maxF (1 : Int32) (p0 &&& (2147483647 : Int32))).toInt64) + (1 : Int64))).toInt32)) (FP.i2f (maxF (1 : Int32) (p0 &&& (2147483647 : Int32)))))), .val (.float (FP.d2f (FP.ddiv (FP.f2d (FP.i2f ((own_lrem ((p1.toInt64) &&& (4294967295 : Int64)) (((maxF (1 : Int32) (p0 &&& (2147483647 : Int32))).toInt64) + (1 : Int64))).toInt32))) (FP.f2d (FP.i2f (maxF (1 : Int32) (p0 &&& (2147483647 : Int32)))))))), .val (.int (1 : Int32)), .val (.int (1 : Int32))] [(.float (FP.fdiv (FP.i2f ((own_lrem ((p1.toInt64) &&& (4294967295 : Int64)) (((maxF (1 : Int32) (p0 &&& (2147483647 : Int32))).toInt64) + (1 : Int64))).toInt32)) (FP.i2f (maxF (1 : Int32) (p0 &&& (2147483647 : Int32)))))), (.float FP.fconst0)])) t
        refine XS.fcmpS X0_4.here hx rfl (hb hby at_121) rfl rfl ?_
        show Steps p.tables e below (T0_4.setTop (mkF m 122 #[.val (.int p0), .val (.int p1), .val (.int p2), .val (.ref b0_1), .val (.int (maxF (1 : Int32) (p0 &&& (2147483647 : Int32)))), .val (.long (((maxF (1 : Int32) (p0 &&& (2147483647 : Int32))).toInt64) + (1 : Int64))), .second, .val (.int ((own_lrem ((p1.toInt64) &&& (4294967295 : Int64)) (((maxF (1 : Int32) (p0 &&& (2147483647 : Int32))).toInt64) + (1 : Int64))).toInt32)), .val (.float (FP.fdiv (FP.i2f ((own_lrem ((p1.toInt64) &&& (4294967295 : Int64)) (((maxF (1 : Int32) (p0 &&& (2147483647 : Int32))).toInt64) + (1 : Int64))).toInt32)) (FP.i2f (maxF (1 : Int32) (p0 &&& (2147483647 : Int32)))))), .val (.float (FP.d2f (FP.ddiv (FP.f2d (FP.i2f ((own_lrem ((p1.toInt64) &&& (4294967295 : Int64)) (((maxF (1 : Int32) (p0 &&& (2147483647 : Int32))).toInt64) + (1 : Int64))).toInt32))) (FP.f2d (FP.i2f (maxF (1 : Int32) (p0 &&& (2147483647 : Int32)))))))), .val (.int (1 : Int32)), .val (.int (1 : Int32))] [(.int (cmpValue (FP.fcmp FP.fconst0 (FP.fdiv (FP.i2f ((own_lrem ((p1.toInt64) &&& (4294967295 : Int64)) (((maxF (1 : Int32) (p0 &&& (2147483647 : Int32))).toInt64) + (1 : Int64))).toInt32)) (FP.i2f (maxF (1 : Int32) (p0 &&& (2147483647 : Int32)))))) .g))])) t
        refine XS.ifNo X0_4.here hx rfl (hb hby at_122) rfl ((if0 _ _).trans (flt (own_ge0 (own_co p0 p1).2.2.2.2.2.2.2.2.1.choose_spec.choose_spec)).2.2.1) ?_
        show Steps p.tables e below (T0_4.setTop (mkF m 125 #[.val (.int p0), .val (.int p1), .val (.int p2), .val (.ref b0_1), .val (.int (maxF (1 : Int32) (p0 &&& (2147483647 : Int32)))), .val (.long (((maxF (1 : Int32) (p0 &&& (2147483647 : Int32))).toInt64) + (1 : Int64))), .second, .val (.int ((own_lrem ((p1.toInt64) &&& (4294967295 : Int64)) (((maxF (1 : Int32) (p0 &&& (2147483647 : Int32))).toInt64) + (1 : Int64))).toInt32)), .val (.float (FP.fdiv (FP.i2f ((own_lrem ((p1.toInt64) &&& (4294967295 : Int64)) (((maxF (1 : Int32) (p0 &&& (2147483647 : Int32))).toInt64) + (1 : Int64))).toInt32)) (FP.i2f (maxF (1 : Int32) (p0 &&& (2147483647 : Int32)))))), .val (.float (FP.d2f (FP.ddiv (FP.f2d (FP.i2f ((own_lrem ((p1.toInt64) &&& (4294967295 : Int64)) (((maxF (1 : Int32) (p0 &&& (2147483647 : Int32))).toInt64) + (1 : Int64))).toInt32))) (FP.f2d (FP.i2f (maxF (1 : Int32) (p0 &&& (2147483647 : Int32)))))))), .val (.int (1 : Int32)), .val (.int (1 : Int32))] [])) t
        refine XS.fload X0_4.here hx rfl (hb hby at_125) rfl ?_
        show Steps p.tables e below (T0_4.setTop (mkF m 127 #[.val (.int p0), .val (.int p1), .val (.int p2), .val (.ref b0_1), .val (.int (maxF (1 : Int32) (p0 &&& (2147483647 : Int32)))), .val (.long (((maxF (1 : Int32) (p0 &&& (2147483647 : Int32))).toInt64) + (1 : Int64))), .second, .val (.int ((own_lrem ((p1.toInt64) &&& (4294967295 : Int64)) (((maxF (1 : Int32) (p0 &&& (2147483647 : Int32))).toInt64) + (1 : Int64))).toInt32)), .val (.float (FP.fdiv (FP.i2f ((own_lrem ((p1.toInt64) &&& (4294967295 : Int64)) (((maxF (1 : Int32) (p0 &&& (2147483647 : Int32))).toInt64) + (1 : Int64))).toInt32)) (FP.i2f (maxF (1 : Int32) (p0 &&& (2147483647 : Int32)))))), .val (.float (FP.d2f (FP.ddiv (FP.f2d (FP.i2f ((own_lrem ((p1.toInt64) &&& (4294967295 : Int64)) (((maxF (1 : Int32) (p0 &&& (2147483647 : Int32))).toInt64) + (1 : Int64))).toInt32))) (FP.f2d (FP.i2f (maxF (1 : Int32) (p0 &&& (2147483647 : Int32)))))))), .val (.int (1 : Int32)), .val (.int (1 : Int32))] [(.float (FP.fdiv (FP.i2f ((own_lrem ((p1.toInt64) &&& (4294967295 : Int64)) (((maxF (1 : Int32) (p0 &&& (2147483647 : Int32))).toInt64) + (1 : Int64))).toInt32)) (FP.i2f (maxF (1 : Int32) (p0 &&& (2147483647 : Int32))))))])) t
        refine XS.fconst1 X0_4.here hx rfl (hb hby at_127) rfl ?_
        show Steps p.tables e below (T0_4.setTop (mkF m 128 #[.val (.int p0), .val (.int p1), .val (.int p2), .val (.ref b0_1), .val (.int (maxF (1 : Int32) (p0 &&& (2147483647 : Int32)))), .val (.long (((maxF (1 : Int32) (p0 &&& (2147483647 : Int32))).toInt64) + (1 : Int64))), .second, .val (.int ((own_lrem ((p1.toInt64) &&& (4294967295 : Int64)) (((maxF (1 : Int32) (p0 &&& (2147483647 : Int32))).toInt64) + (1 : Int64))).toInt32)), .val (.float (FP.fdiv (FP.i2f ((own_lrem ((p1.toInt64) &&& (4294967295 : Int64)) (((maxF (1 : Int32) (p0 &&& (2147483647 : Int32))).toInt64) + (1 : Int64))).toInt32)) (FP.i2f (maxF (1 : Int32) (p0 &&& (2147483647 : Int32)))))), .val (.float (FP.d2f (FP.ddiv (FP.f2d (FP.i2f ((own_lrem ((p1.toInt64) &&& (4294967295 : Int64)) (((maxF (1 : Int32) (p0 &&& (2147483647 : Int32))).toInt64) + (1 : Int64))).toInt32))) (FP.f2d (FP.i2f (maxF (1 : Int32) (p0 &&& (2147483647 : Int32)))))))), .val (.int (1 : Int32)), .val (.int (1 : Int32))] [(.float FP.fconst1), (.float (FP.fdiv (FP.i2f ((own_lrem ((p1.toInt64) &&& (4294967295 : Int64)) (((maxF (1 : Int32) (p0 &&& (2147483647 : Int32))).toInt64) + (1 : Int64))).toInt32)) (FP.i2f (maxF (1 : Int32) (p0 &&& (2147483647 : Int32))))))])) t
        refine XS.fcmpS X0_4.here hx rfl (hb hby at_128) rfl rfl ?_
        show Steps p.tables e below (T0_4.setTop (mkF m 129 #[.val (.int p0), .val (.int p1), .val (.int p2), .val (.ref b0_1), .val (.int (maxF (1 : Int32) (p0 &&& (2147483647 : Int32)))), .val (.long (((maxF (1 : Int32) (p0 &&& (2147483647 : Int32))).toInt64) + (1 : Int64))), .second, .val (.int ((own_lrem ((p1.toInt64) &&& (4294967295 : Int64)) (((maxF (1 : Int32) (p0 &&& (2147483647 : Int32))).toInt64) + (1 : Int64))).toInt32)), .val (.float (FP.fdiv (FP.i2f ((own_lrem ((p1.toInt64) &&& (4294967295 : Int64)) (((maxF (1 : Int32) (p0 &&& (2147483647 : Int32))).toInt64) + (1 : Int64))).toInt32)) (FP.i2f (maxF (1 : Int32) (p0 &&& (2147483647 : Int32)))))), .val (.float (FP.d2f (FP.ddiv (FP.f2d (FP.i2f ((own_lrem ((p1.toInt64) &&& (4294967295 : Int64)) (((maxF (1 : Int32) (p0 &&& (2147483647 : Int32))).toInt64) + (1 : Int64))).toInt32))) (FP.f2d (FP.i2f (maxF (1 : Int32) (p0 &&& (2147483647 : Int32)))))))), .val (.int (1 : Int32)), .val (.int (1 : Int32))] [(.int (cmpValue (FP.fcmp (FP.fdiv (FP.i2f ((own_lrem ((p1.toInt64) &&& (4294967295 : Int64)) (((maxF (1 : Int32) (p0 &&& (2147483647 : Int32))).toInt64) + (1 : Int64))).toInt32)) (FP.i2f (maxF (1 : Int32) (p0 &&& (2147483647 : Int32))))) FP.fconst1) .g))])) t
        refine XS.ifNo X0_4.here hx rfl (hb hby at_129) rfl ((if0 _ _).trans (flt (own_le1 (own_co p0 p1).2.2.2.2.2.2.2.2.1.choose_spec.choose_spec (own_co p0 p1).2.2.2.2.2.2.2.2.2)).2.2.1) ?_
        show Steps p.tables e below (T0_4.setTop (mkF m 132 #[.val (.int p0), .val (.int p1), .val (.int p2), .val (.ref b0_1), .val (.int (maxF (1 : Int32) (p0 &&& (2147483647 : Int32)))), .val (.long (((maxF (1 : Int32) (p0 &&& (2147483647 : Int32))).toInt64) + (1 : Int64))), .second, .val (.int ((own_lrem ((p1.toInt64) &&& (4294967295 : Int64)) (((maxF (1 : Int32) (p0 &&& (2147483647 : Int32))).toInt64) + (1 : Int64))).toInt32)), .val (.float (FP.fdiv (FP.i2f ((own_lrem ((p1.toInt64) &&& (4294967295 : Int64)) (((maxF (1 : Int32) (p0 &&& (2147483647 : Int32))).toInt64) + (1 : Int64))).toInt32)) (FP.i2f (maxF (1 : Int32) (p0 &&& (2147483647 : Int32)))))), .val (.float (FP.d2f (FP.ddiv (FP.f2d (FP.i2f ((own_lrem ((p1.toInt64) &&& (4294967295 : Int64)) (((maxF (1 : Int32) (p0 &&& (2147483647 : Int32))).toInt64) + (1 : Int64))).toInt32))) (FP.f2d (FP.i2f (maxF (1 : Int32) (p0 &&& (2147483647 : Int32)))))))), .val (.int (1 : Int32)), .val (.int (1 : Int32))] [])) t
        refine XS.iload X0_4.here hx rfl (hb hby at_132) rfl ?_
        show Steps p.tables e below (T0_4.setTop (mkF m 134 #[.val (.int p0), .val (.int p1), .val (.int p2), .val (.ref b0_1), .val (.int (maxF (1 : Int32) (p0 &&& (2147483647 : Int32)))), .val (.long (((maxF (1 : Int32) (p0 &&& (2147483647 : Int32))).toInt64) + (1 : Int64))), .second, .val (.int ((own_lrem ((p1.toInt64) &&& (4294967295 : Int64)) (((maxF (1 : Int32) (p0 &&& (2147483647 : Int32))).toInt64) + (1 : Int64))).toInt32)), .val (.float (FP.fdiv (FP.i2f ((own_lrem ((p1.toInt64) &&& (4294967295 : Int64)) (((maxF (1 : Int32) (p0 &&& (2147483647 : Int32))).toInt64) + (1 : Int64))).toInt32)) (FP.i2f (maxF (1 : Int32) (p0 &&& (2147483647 : Int32)))))), .val (.float (FP.d2f (FP.ddiv (FP.f2d (FP.i2f ((own_lrem ((p1.toInt64) &&& (4294967295 : Int64)) (((maxF (1 : Int32) (p0 &&& (2147483647 : Int32))).toInt64) + (1 : Int64))).toInt32))) (FP.f2d (FP.i2f (maxF (1 : Int32) (p0 &&& (2147483647 : Int32)))))))), .val (.int (1 : Int32)), .val (.int (1 : Int32))] [(.int (1 : Int32))])) t
        refine XS.ifNo X0_4.here hx rfl (hb hby at_134) rfl ((if0 _ _).trans (feq (by decide : ¬ ((1 : Int32) = (0 : Int32)))).1) ?_
        show Steps p.tables e below (T0_4.setTop (mkF m 137 #[.val (.int p0), .val (.int p1), .val (.int p2), .val (.ref b0_1), .val (.int (maxF (1 : Int32) (p0 &&& (2147483647 : Int32)))), .val (.long (((maxF (1 : Int32) (p0 &&& (2147483647 : Int32))).toInt64) + (1 : Int64))), .second, .val (.int ((own_lrem ((p1.toInt64) &&& (4294967295 : Int64)) (((maxF (1 : Int32) (p0 &&& (2147483647 : Int32))).toInt64) + (1 : Int64))).toInt32)), .val (.float (FP.fdiv (FP.i2f ((own_lrem ((p1.toInt64) &&& (4294967295 : Int64)) (((maxF (1 : Int32) (p0 &&& (2147483647 : Int32))).toInt64) + (1 : Int64))).toInt32)) (FP.i2f (maxF (1 : Int32) (p0 &&& (2147483647 : Int32)))))), .val (.float (FP.d2f (FP.ddiv (FP.f2d (FP.i2f ((own_lrem ((p1.toInt64) &&& (4294967295 : Int64)) (((maxF (1 : Int32) (p0 &&& (2147483647 : Int32))).toInt64) + (1 : Int64))).toInt32))) (FP.f2d (FP.i2f (maxF (1 : Int32) (p0 &&& (2147483647 : Int32)))))))), .val (.int (1 : Int32)), .val (.int (1 : Int32))] [])) t
        refine XS.iload X0_4.here hx rfl (hb hby at_137) rfl ?_
        show Steps p.tables e below (T0_4.setTop (mkF m 139 #[.val (.int p0), .val (.int p1), .val (.int p2), .val (.ref b0_1), .val (.int (maxF (1 : Int32) (p0 &&& (2147483647 : Int32)))), .val (.long (((maxF (1 : Int32) (p0 &&& (2147483647 : Int32))).toInt64) + (1 : Int64))), .second, .val (.int ((own_lrem ((p1.toInt64) &&& (4294967295 : Int64)) (((maxF (1 : Int32) (p0 &&& (2147483647 : Int32))).toInt64) + (1 : Int64))).toInt32)), .val (.float (FP.fdiv (FP.i2f ((own_lrem ((p1.toInt64) &&& (4294967295 : Int64)) (((maxF (1 : Int32) (p0 &&& (2147483647 : Int32))).toInt64) + (1 : Int64))).toInt32)) (FP.i2f (maxF (1 : Int32) (p0 &&& (2147483647 : Int32)))))), .val (.float (FP.d2f (FP.ddiv (FP.f2d (FP.i2f ((own_lrem ((p1.toInt64) &&& (4294967295 : Int64)) (((maxF (1 : Int32) (p0 &&& (2147483647 : Int32))).toInt64) + (1 : Int64))).toInt32))) (FP.f2d (FP.i2f (maxF (1 : Int32) (p0 &&& (2147483647 : Int32)))))))), .val (.int (1 : Int32)), .val (.int (1 : Int32))] [(.int (1 : Int32))])) t
        refine XS.ifNo X0_4.here hx rfl (hb hby at_139) rfl ((if0 _ _).trans (feq (by decide : ¬ ((1 : Int32) = (0 : Int32)))).1) ?_
        show Steps p.tables e below (T0_4.setTop (mkF m 142 #[.val (.int p0), .val (.int p1), .val (.int p2), .val (.ref b0_1), .val (.int (maxF (1 : Int32) (p0 &&& (2147483647 : Int32)))), .val (.long (((maxF (1 : Int32) (p0 &&& (2147483647 : Int32))).toInt64) + (1 : Int64))), .second, .val (.int ((own_lrem ((p1.toInt64) &&& (4294967295 : Int64)) (((maxF (1 : Int32) (p0 &&& (2147483647 : Int32))).toInt64) + (1 : Int64))).toInt32)), .val (.float (FP.fdiv (FP.i2f ((own_lrem ((p1.toInt64) &&& (4294967295 : Int64)) (((maxF (1 : Int32) (p0 &&& (2147483647 : Int32))).toInt64) + (1 : Int64))).toInt32)) (FP.i2f (maxF (1 : Int32) (p0 &&& (2147483647 : Int32)))))), .val (.float (FP.d2f (FP.ddiv (FP.f2d (FP.i2f ((own_lrem ((p1.toInt64) &&& (4294967295 : Int64)) (((maxF (1 : Int32) (p0 &&& (2147483647 : Int32))).toInt64) + (1 : Int64))).toInt32))) (FP.f2d (FP.i2f (maxF (1 : Int32) (p0 &&& (2147483647 : Int32)))))))), .val (.int (1 : Int32)), .val (.int (1 : Int32))] [])) t
        refine XS.iconst X0_4.here hx rfl (hb hby at_142) ?_
        show Steps p.tables e below (T0_4.setTop (mkF m 143 #[.val (.int p0), .val (.int p1), .val (.int p2), .val (.ref b0_1), .val (.int (maxF (1 : Int32) (p0 &&& (2147483647 : Int32)))), .val (.long (((maxF (1 : Int32) (p0 &&& (2147483647 : Int32))).toInt64) + (1 : Int64))), .second, .val (.int ((own_lrem ((p1.toInt64) &&& (4294967295 : Int64)) (((maxF (1 : Int32) (p0 &&& (2147483647 : Int32))).toInt64) + (1 : Int64))).toInt32)), .val (.float (FP.fdiv (FP.i2f ((own_lrem ((p1.toInt64) &&& (4294967295 : Int64)) (((maxF (1 : Int32) (p0 &&& (2147483647 : Int32))).toInt64) + (1 : Int64))).toInt32)) (FP.i2f (maxF (1 : Int32) (p0 &&& (2147483647 : Int32)))))), .val (.float (FP.d2f (FP.ddiv (FP.f2d (FP.i2f ((own_lrem ((p1.toInt64) &&& (4294967295 : Int64)) (((maxF (1 : Int32) (p0 &&& (2147483647 : Int32))).toInt64) + (1 : Int64))).toInt32))) (FP.f2d (FP.i2f (maxF (1 : Int32) (p0 &&& (2147483647 : Int32)))))))), .val (.int (1 : Int32)), .val (.int (1 : Int32))] [(.int (1 : Int32))])) t
        refine XS.goto X0_4.here hx rfl (pc0 := 143) (pc' := 147) rfl (hb hby at_143) (by decide) (by decide) ?_
        exact k
      obtain ⟨fs, hr, hrun, hended, hW, hsame⟩ := X0_4.leave (v := some (.int (nar .boolean (1 : Int32)))) (fun h => by rw [Bd.returns] at h; cases h)
      refine ⟨_, _, retN X0_4 hx (t := .boolean) Bd.returns (by simp) (hb hby at_147) hr, hrun, hended, _, _, rfl, ?_, ⟨_, rfl⟩, hW, hsame.mono (by decide) (by decide)⟩
      have eh : (T0_4.setFrames fs).heap = T0_2.heap := e0_4
      rw [eh]
      exact ⟨rfl, N0_4⟩
  · refine own_fw (A := T0_4.setTop (mkF m 84 #[.val (.int p0), .val (.int p1), .val (.int p2), .val (.ref b0_1), .val (.int (maxF (1 : Int32) (p0 &&& (2147483647 : Int32)))), .val (.long (((maxF (1 : Int32) (p0 &&& (2147483647 : Int32))).toInt64) + (1 : Int64))), .second, .val (.int ((own_lrem ((p1.toInt64) &&& (4294967295 : Int64)) (((maxF (1 : Int32) (p0 &&& (2147483647 : Int32))).toInt64) + (1 : Int64))).toInt32)), .val (.float (FP.fdiv (FP.i2f ((own_lrem ((p1.toInt64) &&& (4294967295 : Int64)) (((maxF (1 : Int32) (p0 &&& (2147483647 : Int32))).toInt64) + (1 : Int64))).toInt32)) (FP.i2f (maxF (1 : Int32) (p0 &&& (2147483647 : Int32)))))), .val (.float (FP.d2f (FP.ddiv (FP.f2d (FP.i2f ((own_lrem ((p1.toInt64) &&& (4294967295 : Int64)) (((maxF (1 : Int32) (p0 &&& (2147483647 : Int32))).toInt64) + (1 : Int64))).toInt32))) (FP.f2d (FP.i2f (maxF (1 : Int32) (p0 &&& (2147483647 : Int32)))))))), .unset, .unset] [])) (fun t k => ?_) ?_
    · show Steps p.tables e below (T0_4.setTop (mkF m 74 #[.val (.int p0), .val (.int p1), .val (.int p2), .val (.ref b0_1), .val (.int (maxF (1 : Int32) (p0 &&& (2147483647 : Int32)))), .val (.long (((maxF (1 : Int32) (p0 &&& (2147483647 : Int32))).toInt64) + (1 : Int64))), .second, .val (.int ((own_lrem ((p1.toInt64) &&& (4294967295 : Int64)) (((maxF (1 : Int32) (p0 &&& (2147483647 : Int32))).toInt64) + (1 : Int64))).toInt32)), .val (.float (FP.fdiv (FP.i2f ((own_lrem ((p1.toInt64) &&& (4294967295 : Int64)) (((maxF (1 : Int32) (p0 &&& (2147483647 : Int32))).toInt64) + (1 : Int64))).toInt32)) (FP.i2f (maxF (1 : Int32) (p0 &&& (2147483647 : Int32)))))), .val (.float (FP.d2f (FP.ddiv (FP.f2d (FP.i2f ((own_lrem ((p1.toInt64) &&& (4294967295 : Int64)) (((maxF (1 : Int32) (p0 &&& (2147483647 : Int32))).toInt64) + (1 : Int64))).toInt32))) (FP.f2d (FP.i2f (maxF (1 : Int32) (p0 &&& (2147483647 : Int32)))))))), .unset, .unset] [(.int (maxF (1 : Int32) (p0 &&& (2147483647 : Int32)))), (.int ((own_lrem ((p1.toInt64) &&& (4294967295 : Int64)) (((maxF (1 : Int32) (p0 &&& (2147483647 : Int32))).toInt64) + (1 : Int64))).toInt32))])) t
      refine XS.icmpYes X0_4.here hx rfl (pc0 := 74) (pc' := 84) rfl (hb hby at_74) rfl (feq hc0_2).2 (by decide) (by decide) ?_
      exact k
    refine own_fw (A := T0_4.setTop (mkF m 93 #[.val (.int p0), .val (.int p1), .val (.int p2), .val (.ref b0_1), .val (.int (maxF (1 : Int32) (p0 &&& (2147483647 : Int32)))), .val (.long (((maxF (1 : Int32) (p0 &&& (2147483647 : Int32))).toInt64) + (1 : Int64))), .second, .val (.int ((own_lrem ((p1.toInt64) &&& (4294967295 : Int64)) (((maxF (1 : Int32) (p0 &&& (2147483647 : Int32))).toInt64) + (1 : Int64))).toInt32)), .val (.float (FP.fdiv (FP.i2f ((own_lrem ((p1.toInt64) &&& (4294967295 : Int64)) (((maxF (1 : Int32) (p0 &&& (2147483647 : Int32))).toInt64) + (1 : Int64))).toInt32)) (FP.i2f (maxF (1 : Int32) (p0 &&& (2147483647 : Int32)))))), .val (.float (FP.d2f (FP.ddiv (FP.f2d (FP.i2f ((own_lrem ((p1.toInt64) &&& (4294967295 : Int64)) (((maxF (1 : Int32) (p0 &&& (2147483647 : Int32))).toInt64) + (1 : Int64))).toInt32))) (FP.f2d (FP.i2f (maxF (1 : Int32) (p0 &&& (2147483647 : Int32)))))))), .val (.int (1 : Int32)), .unset] [(.int ((own_lrem ((p1.toInt64) &&& (4294967295 : Int64)) (((maxF (1 : Int32) (p0 &&& (2147483647 : Int32))).toInt64) + (1 : Int64))).toInt32))])) (fun t k => ?_) ?_
    · show Steps p.tables e below (T0_4.setTop (mkF m 84 #[.val (.int p0), .val (.int p1), .val (.int p2), .val (.ref b0_1), .val (.int (maxF (1 : Int32) (p0 &&& (2147483647 : Int32)))), .val (.long (((maxF (1 : Int32) (p0 &&& (2147483647 : Int32))).toInt64) + (1 : Int64))), .second, .val (.int ((own_lrem ((p1.toInt64) &&& (4294967295 : Int64)) (((maxF (1 : Int32) (p0 &&& (2147483647 : Int32))).toInt64) + (1 : Int64))).toInt32)), .val (.float (FP.fdiv (FP.i2f ((own_lrem ((p1.toInt64) &&& (4294967295 : Int64)) (((maxF (1 : Int32) (p0 &&& (2147483647 : Int32))).toInt64) + (1 : Int64))).toInt32)) (FP.i2f (maxF (1 : Int32) (p0 &&& (2147483647 : Int32)))))), .val (.float (FP.d2f (FP.ddiv (FP.f2d (FP.i2f ((own_lrem ((p1.toInt64) &&& (4294967295 : Int64)) (((maxF (1 : Int32) (p0 &&& (2147483647 : Int32))).toInt64) + (1 : Int64))).toInt32))) (FP.f2d (FP.i2f (maxF (1 : Int32) (p0 &&& (2147483647 : Int32)))))))), .unset, .unset] [])) t
      refine XS.iconst X0_4.here hx rfl (hb hby at_84) ?_
      show Steps p.tables e below (T0_4.setTop (mkF m 85 #[.val (.int p0), .val (.int p1), .val (.int p2), .val (.ref b0_1), .val (.int (maxF (1 : Int32) (p0 &&& (2147483647 : Int32)))), .val (.long (((maxF (1 : Int32) (p0 &&& (2147483647 : Int32))).toInt64) + (1 : Int64))), .second, .val (.int ((own_lrem ((p1.toInt64) &&& (4294967295 : Int64)) (((maxF (1 : Int32) (p0 &&& (2147483647 : Int32))).toInt64) + (1 : Int64))).toInt32)), .val (.float (FP.fdiv (FP.i2f ((own_lrem ((p1.toInt64) &&& (4294967295 : Int64)) (((maxF (1 : Int32) (p0 &&& (2147483647 : Int32))).toInt64) + (1 : Int64))).toInt32)) (FP.i2f (maxF (1 : Int32) (p0 &&& (2147483647 : Int32)))))), .val (.float (FP.d2f (FP.ddiv (FP.f2d (FP.i2f ((own_lrem ((p1.toInt64) &&& (4294967295 : Int64)) (((maxF (1 : Int32) (p0 &&& (2147483647 : Int32))).toInt64) + (1 : Int64))).toInt32))) (FP.f2d (FP.i2f (maxF (1 : Int32) (p0 &&& (2147483647 : Int32)))))))), .unset, .unset] [(.int (1 : Int32))])) t
      refine XS.goto X0_4.here hx rfl (pc0 := 85) (pc' := 89) rfl (hb hby at_85) (by decide) (by decide) ?_
      show Steps p.tables e below (T0_4.setTop (mkF m 89 #[.val (.int p0), .val (.int p1), .val (.int p2), .val (.ref b0_1), .val (.int (maxF (1 : Int32) (p0 &&& (2147483647 : Int32)))), .val (.long (((maxF (1 : Int32) (p0 &&& (2147483647 : Int32))).toInt64) + (1 : Int64))), .second, .val (.int ((own_lrem ((p1.toInt64) &&& (4294967295 : Int64)) (((maxF (1 : Int32) (p0 &&& (2147483647 : Int32))).toInt64) + (1 : Int64))).toInt32)), .val (.float (FP.fdiv (FP.i2f ((own_lrem ((p1.toInt64) &&& (4294967295 : Int64)) (((maxF (1 : Int32) (p0 &&& (2147483647 : Int32))).toInt64) + (1 : Int64))).toInt32)) (FP.i2f (maxF (1 : Int32) (p0 &&& (2147483647 : Int32)))))), .val (.float (FP.d2f (FP.ddiv (FP.f2d (FP.i2f ((own_lrem ((p1.toInt64) &&& (4294967295 : Int64)) (((maxF (1 : Int32) (p0 &&& (2147483647 : Int32))).toInt64) + (1 : Int64))).toInt32))) (FP.f2d (FP.i2f (maxF (1 : Int32) (p0 &&& (2147483647 : Int32)))))))), .unset, .unset] [(.int (1 : Int32))])) t
      refine XS.istore X0_4.here hx rfl (hb hby at_89) rfl (l' := #[.val (.int p0), .val (.int p1), .val (.int p2), .val (.ref b0_1), .val (.int (maxF (1 : Int32) (p0 &&& (2147483647 : Int32)))), .val (.long (((maxF (1 : Int32) (p0 &&& (2147483647 : Int32))).toInt64) + (1 : Int64))), .second, .val (.int ((own_lrem ((p1.toInt64) &&& (4294967295 : Int64)) (((maxF (1 : Int32) (p0 &&& (2147483647 : Int32))).toInt64) + (1 : Int64))).toInt32)), .val (.float (FP.fdiv (FP.i2f ((own_lrem ((p1.toInt64) &&& (4294967295 : Int64)) (((maxF (1 : Int32) (p0 &&& (2147483647 : Int32))).toInt64) + (1 : Int64))).toInt32)) (FP.i2f (maxF (1 : Int32) (p0 &&& (2147483647 : Int32)))))), .val (.float (FP.d2f (FP.ddiv (FP.f2d (FP.i2f ((own_lrem ((p1.toInt64) &&& (4294967295 : Int64)) (((maxF (1 : Int32) (p0 &&& (2147483647 : Int32))).toInt64) + (1 : Int64))).toInt32))) (FP.f2d (FP.i2f (maxF (1 : Int32) (p0 &&& (2147483647 : Int32)))))))), .val (.int (1 : Int32)), .unset]) rfl ?_
      show Steps p.tables e below (T0_4.setTop (mkF m 91 #[.val (.int p0), .val (.int p1), .val (.int p2), .val (.ref b0_1), .val (.int (maxF (1 : Int32) (p0 &&& (2147483647 : Int32)))), .val (.long (((maxF (1 : Int32) (p0 &&& (2147483647 : Int32))).toInt64) + (1 : Int64))), .second, .val (.int ((own_lrem ((p1.toInt64) &&& (4294967295 : Int64)) (((maxF (1 : Int32) (p0 &&& (2147483647 : Int32))).toInt64) + (1 : Int64))).toInt32)), .val (.float (FP.fdiv (FP.i2f ((own_lrem ((p1.toInt64) &&& (4294967295 : Int64)) (((maxF (1 : Int32) (p0 &&& (2147483647 : Int32))).toInt64) + (1 : Int64))).toInt32)) (FP.i2f (maxF (1 : Int32) (p0 &&& (2147483647 : Int32)))))), .val (.float (FP.d2f (FP.ddiv (FP.f2d (FP.i2f ((own_lrem ((p1.toInt64) &&& (4294967295 : Int64)) (((maxF (1 : Int32) (p0 &&& (2147483647 : Int32))).toInt64) + (1 : Int64))).toInt32))) (FP.f2d (FP.i2f (maxF (1 : Int32) (p0 &&& (2147483647 : Int32)))))))), .val (.int (1 : Int32)), .unset] [])) t
      refine XS.iload X0_4.here hx rfl (hb hby at_91) rfl ?_
      exact k
    by_cases hc0_4 : ((own_lrem ((p1.toInt64) &&& (4294967295 : Int64)) (((maxF (1 : Int32) (p0 &&& (2147483647 : Int32))).toInt64) + (1 : Int64))).toInt32) = (0 : Int32)
    · refine own_fw (A := T0_4.setTop (mkF m 96 #[.val (.int p0), .val (.int p1), .val (.int p2), .val (.ref b0_1), .val (.int (maxF (1 : Int32) (p0 &&& (2147483647 : Int32)))), .val (.long (((maxF (1 : Int32) (p0 &&& (2147483647 : Int32))).toInt64) + (1 : Int64))), .second, .val (.int ((own_lrem ((p1.toInt64) &&& (4294967295 : Int64)) (((maxF (1 : Int32) (p0 &&& (2147483647 : Int32))).toInt64) + (1 : Int64))).toInt32)), .val (.float (FP.fdiv (FP.i2f ((own_lrem ((p1.toInt64) &&& (4294967295 : Int64)) (((maxF (1 : Int32) (p0 &&& (2147483647 : Int32))).toInt64) + (1 : Int64))).toInt32)) (FP.i2f (maxF (1 : Int32) (p0 &&& (2147483647 : Int32)))))), .val (.float (FP.d2f (FP.ddiv (FP.f2d (FP.i2f ((own_lrem ((p1.toInt64) &&& (4294967295 : Int64)) (((maxF (1 : Int32) (p0 &&& (2147483647 : Int32))).toInt64) + (1 : Int64))).toInt32))) (FP.f2d (FP.i2f (maxF (1 : Int32) (p0 &&& (2147483647 : Int32)))))))), .val (.int (1 : Int32)), .unset] [])) (fun t k => ?_) ?_
      · show Steps p.tables e below (T0_4.setTop (mkF m 93 #[.val (.int p0), .val (.int p1), .val (.int p2), .val (.ref b0_1), .val (.int (maxF (1 : Int32) (p0 &&& (2147483647 : Int32)))), .val (.long (((maxF (1 : Int32) (p0 &&& (2147483647 : Int32))).toInt64) + (1 : Int64))), .second, .val (.int ((own_lrem ((p1.toInt64) &&& (4294967295 : Int64)) (((maxF (1 : Int32) (p0 &&& (2147483647 : Int32))).toInt64) + (1 : Int64))).toInt32)), .val (.float (FP.fdiv (FP.i2f ((own_lrem ((p1.toInt64) &&& (4294967295 : Int64)) (((maxF (1 : Int32) (p0 &&& (2147483647 : Int32))).toInt64) + (1 : Int64))).toInt32)) (FP.i2f (maxF (1 : Int32) (p0 &&& (2147483647 : Int32)))))), .val (.float (FP.d2f (FP.ddiv (FP.f2d (FP.i2f ((own_lrem ((p1.toInt64) &&& (4294967295 : Int64)) (((maxF (1 : Int32) (p0 &&& (2147483647 : Int32))).toInt64) + (1 : Int64))).toInt32))) (FP.f2d (FP.i2f (maxF (1 : Int32) (p0 &&& (2147483647 : Int32)))))))), .val (.int (1 : Int32)), .unset] [(.int ((own_lrem ((p1.toInt64) &&& (4294967295 : Int64)) (((maxF (1 : Int32) (p0 &&& (2147483647 : Int32))).toInt64) + (1 : Int64))).toInt32))])) t
        refine XS.ifNo X0_4.here hx rfl (hb hby at_93) rfl ((if0 _ _).trans (teq hc0_4).2) ?_
        exact k
      refine own_fw (A := T0_4.setTop (mkF m 147 #[.val (.int p0), .val (.int p1), .val (.int p2), .val (.ref b0_1), .val (.int (maxF (1 : Int32) (p0 &&& (2147483647 : Int32)))), .val (.long (((maxF (1 : Int32) (p0 &&& (2147483647 : Int32))).toInt64) + (1 : Int64))), .second, .val (.int ((own_lrem ((p1.toInt64) &&& (4294967295 : Int64)) (((maxF (1 : Int32) (p0 &&& (2147483647 : Int32))).toInt64) + (1 : Int64))).toInt32)), .val (.float (FP.fdiv (FP.i2f ((own_lrem ((p1.toInt64) &&& (4294967295 : Int64)) (((maxF (1 : Int32) (p0 &&& (2147483647 : Int32))).toInt64) + (1 : Int64))).toInt32)) (FP.i2f (maxF (1 : Int32) (p0 &&& (2147483647 : Int32)))))), .val (.float (FP.d2f (FP.ddiv (FP.f2d (FP.i2f ((own_lrem ((p1.toInt64) &&& (4294967295 : Int64)) (((maxF (1 : Int32) (p0 &&& (2147483647 : Int32))).toInt64) + (1 : Int64))).toInt32))) (FP.f2d (FP.i2f (maxF (1 : Int32) (p0 &&& (2147483647 : Int32)))))))), .val (.int (1 : Int32)), .val (.int (1 : Int32))] [(.int (1 : Int32))])) (fun t k => ?_) ?_
      · show Steps p.tables e below (T0_4.setTop (mkF m 96 #[.val (.int p0), .val (.int p1), .val (.int p2), .val (.ref b0_1), .val (.int (maxF (1 : Int32) (p0 &&& (2147483647 : Int32)))), .val (.long (((maxF (1 : Int32) (p0 &&& (2147483647 : Int32))).toInt64) + (1 : Int64))), .second, .val (.int ((own_lrem ((p1.toInt64) &&& (4294967295 : Int64)) (((maxF (1 : Int32) (p0 &&& (2147483647 : Int32))).toInt64) + (1 : Int64))).toInt32)), .val (.float (FP.fdiv (FP.i2f ((own_lrem ((p1.toInt64) &&& (4294967295 : Int64)) (((maxF (1 : Int32) (p0 &&& (2147483647 : Int32))).toInt64) + (1 : Int64))).toInt32)) (FP.i2f (maxF (1 : Int32) (p0 &&& (2147483647 : Int32)))))), .val (.float (FP.d2f (FP.ddiv (FP.f2d (FP.i2f ((own_lrem ((p1.toInt64) &&& (4294967295 : Int64)) (((maxF (1 : Int32) (p0 &&& (2147483647 : Int32))).toInt64) + (1 : Int64))).toInt32))) (FP.f2d (FP.i2f (maxF (1 : Int32) (p0 &&& (2147483647 : Int32)))))))), .val (.int (1 : Int32)), .unset] [])) t
        refine XS.fload X0_4.here hx rfl (hb hby at_96) rfl ?_
        show Steps p.tables e below (T0_4.setTop (mkF m 98 #[.val (.int p0), .val (.int p1), .val (.int p2), .val (.ref b0_1), .val (.int (maxF (1 : Int32) (p0 &&& (2147483647 : Int32)))), .val (.long (((maxF (1 : Int32) (p0 &&& (2147483647 : Int32))).toInt64) + (1 : Int64))), .second, .val (.int ((own_lrem ((p1.toInt64) &&& (4294967295 : Int64)) (((maxF (1 : Int32) (p0 &&& (2147483647 : Int32))).toInt64) + (1 : Int64))).toInt32)), .val (.float (FP.fdiv (FP.i2f ((own_lrem ((p1.toInt64) &&& (4294967295 : Int64)) (((maxF (1 : Int32) (p0 &&& (2147483647 : Int32))).toInt64) + (1 : Int64))).toInt32)) (FP.i2f (maxF (1 : Int32) (p0 &&& (2147483647 : Int32)))))), .val (.float (FP.d2f (FP.ddiv (FP.f2d (FP.i2f ((own_lrem ((p1.toInt64) &&& (4294967295 : Int64)) (((maxF (1 : Int32) (p0 &&& (2147483647 : Int32))).toInt64) + (1 : Int64))).toInt32))) (FP.f2d (FP.i2f (maxF (1 : Int32) (p0 &&& (2147483647 : Int32)))))))), .val (.int (1 : Int32)), .unset] [(.float (FP.fdiv (FP.i2f ((own_lrem ((p1.toInt64) &&& (4294967295 : Int64)) (((maxF (1 : Int32) (p0 &&& (2147483647 : Int32))).toInt64) + (1 : Int64))).toInt32)) (FP.i2f (maxF (1 : Int32) (p0 &&& (2147483647 : Int32))))))])) t
        refine XS.fconst0 X0_4.here hx rfl (hb hby at_98) rfl ?_
        show Steps p.tables e below (T0_4.setTop (mkF m 99 #[.val (.int p0), .val (.int p1), .val (.int p2), .val (.ref b0_1), .val (.int (maxF (1 : Int32) (p0 &&& (2147483647 : Int32)))), .val (.long (((maxF (1 : Int32) (p0 &&& (2147483647 : Int32))).toInt64) + (1 : Int64))), .second, .val (.int ((own_lrem ((p1.toInt64) &&& (4294967295 : Int64)) (((maxF (1 : Int32) (p0 &&& (2147483647 : Int32))).toInt64) + (1 : Int64))).toInt32)), .val (.float (FP.fdiv (FP.i2f ((own_lrem ((p1.toInt64) &&& (4294967295 : Int64)) (((maxF (1 : Int32) (p0 &&& (2147483647 : Int32))).toInt64) + (1 : Int64))).toInt32)) (FP.i2f (maxF (1 : Int32) (p0 &&& (2147483647 : Int32)))))), .val (.float (FP.d2f (FP.ddiv (FP.f2d (FP.i2f ((own_lrem ((p1.toInt64) &&& (4294967295 : Int64)) (((maxF (1 : Int32) (p0 &&& (2147483647 : Int32))).toInt64) + (1 : Int64))).toInt32))) (FP.f2d (FP.i2f (maxF (1 : Int32) (p0 &&& (2147483647 : Int32)))))))), .val (.int (1 : Int32)), .unset] [(.float FP.fconst0), (.float (FP.fdiv (FP.i2f ((own_lrem ((p1.toInt64) &&& (4294967295 : Int64)) (((maxF (1 : Int32) (p0 &&& (2147483647 : Int32))).toInt64) + (1 : Int64))).toInt32)) (FP.i2f (maxF (1 : Int32) (p0 &&& (2147483647 : Int32))))))])) t
        refine XS.fcmpS X0_4.here hx rfl (hb hby at_99) rfl rfl ?_
        show Steps p.tables e below (T0_4.setTop (mkF m 100 #[.val (.int p0), .val (.int p1), .val (.int p2), .val (.ref b0_1), .val (.int (maxF (1 : Int32) (p0 &&& (2147483647 : Int32)))), .val (.long (((maxF (1 : Int32) (p0 &&& (2147483647 : Int32))).toInt64) + (1 : Int64))), .second, .val (.int ((own_lrem ((p1.toInt64) &&& (4294967295 : Int64)) (((maxF (1 : Int32) (p0 &&& (2147483647 : Int32))).toInt64) + (1 : Int64))).toInt32)), .val (.float (FP.fdiv (FP.i2f ((own_lrem ((p1.toInt64) &&& (4294967295 : Int64)) (((maxF (1 : Int32) (p0 &&& (2147483647 : Int32))).toInt64) + (1 : Int64))).toInt32)) (FP.i2f (maxF (1 : Int32) (p0 &&& (2147483647 : Int32)))))), .val (.float (FP.d2f (FP.ddiv (FP.f2d (FP.i2f ((own_lrem ((p1.toInt64) &&& (4294967295 : Int64)) (((maxF (1 : Int32) (p0 &&& (2147483647 : Int32))).toInt64) + (1 : Int64))).toInt32))) (FP.f2d (FP.i2f (maxF (1 : Int32) (p0 &&& (2147483647 : Int32)))))))), .val (.int (1 : Int32)), .unset] [(.int (cmpValue (FP.fcmp (FP.fdiv (FP.i2f ((own_lrem ((p1.toInt64) &&& (4294967295 : Int64)) (((maxF (1 : Int32) (p0 &&& (2147483647 : Int32))).toInt64) + (1 : Int64))).toInt32)) (FP.i2f (maxF (1 : Int32) (p0 &&& (2147483647 : Int32))))) FP.fconst0) .l))])) t
        refine XS.ifNo X0_4.here hx rfl (hb hby at_100) rfl ((if0 _ _).trans (teq (fcmpV_eq ((own_co p0 p1).2.2.2.2.2.2.1 hc0_4) (own_co p0 p1).1 .l)).2) ?_
        show Steps p.tables e below (T0_4.setTop (mkF m 103 #[.val (.int p0), .val (.int p1), .val (.int p2), .val (.ref b0_1), .val (.int (maxF (1 : Int32) (p0 &&& (2147483647 : Int32)))), .val (.long (((maxF (1 : Int32) (p0 &&& (2147483647 : Int32))).toInt64) + (1 : Int64))), .second, .val (.int ((own_lrem ((p1.toInt64) &&& (4294967295 : Int64)) (((maxF (1 : Int32) (p0 &&& (2147483647 : Int32))).toInt64) + (1 : Int64))).toInt32)), .val (.float (FP.fdiv (FP.i2f ((own_lrem ((p1.toInt64) &&& (4294967295 : Int64)) (((maxF (1 : Int32) (p0 &&& (2147483647 : Int32))).toInt64) + (1 : Int64))).toInt32)) (FP.i2f (maxF (1 : Int32) (p0 &&& (2147483647 : Int32)))))), .val (.float (FP.d2f (FP.ddiv (FP.f2d (FP.i2f ((own_lrem ((p1.toInt64) &&& (4294967295 : Int64)) (((maxF (1 : Int32) (p0 &&& (2147483647 : Int32))).toInt64) + (1 : Int64))).toInt32))) (FP.f2d (FP.i2f (maxF (1 : Int32) (p0 &&& (2147483647 : Int32)))))))), .val (.int (1 : Int32)), .unset] [])) t
        refine XS.iconst X0_4.here hx rfl (hb hby at_103) ?_
        show Steps p.tables e below (T0_4.setTop (mkF m 104 #[.val (.int p0), .val (.int p1), .val (.int p2), .val (.ref b0_1), .val (.int (maxF (1 : Int32) (p0 &&& (2147483647 : Int32)))), .val (.long (((maxF (1 : Int32) (p0 &&& (2147483647 : Int32))).toInt64) + (1 : Int64))), .second, .val (.int ((own_lrem ((p1.toInt64) &&& (4294967295 : Int64)) (((maxF (1 : Int32) (p0 &&& (2147483647 : Int32))).toInt64) + (1 : Int64))).toInt32)), .val (.float (FP.fdiv (FP.i2f ((own_lrem ((p1.toInt64) &&& (4294967295 : Int64)) (((maxF (1 : Int32) (p0 &&& (2147483647 : Int32))).toInt64) + (1 : Int64))).toInt32)) (FP.i2f (maxF (1 : Int32) (p0 &&& (2147483647 : Int32)))))), .val (.float (FP.d2f (FP.ddiv (FP.f2d (FP.i2f ((own_lrem ((p1.toInt64) &&& (4294967295 : Int64)) (((maxF (1 : Int32) (p0 &&& (2147483647 : Int32))).toInt64) + (1 : Int64))).toInt32))) (FP.f2d (FP.i2f (maxF (1 : Int32) (p0 &&& (2147483647 : Int32)))))))), .val (.int (1 : Int32)), .unset] [(.int (1 : Int32))])) t
        refine XS.goto X0_4.here hx rfl (pc0 := 104) (pc' := 108) rfl (hb hby at_104) (by decide) (by decide) ?_
        show Steps p.tables e below (T0_4.setTop (mkF m 108 #[.val (.int p0), .val (.int p1), .val (.int p2), .val (.ref b0_1), .val (.int (maxF (1 : Int32) (p0 &&& (2147483647 : Int32)))), .val (.long (((maxF (1 : Int32) (p0 &&& (2147483647 : Int32))).toInt64) + (1 : Int64))), .second, .val (.int ((own_lrem ((p1.toInt64) &&& (4294967295 : Int64)) (((maxF (1 : Int32) (p0 &&& (2147483647 : Int32))).toInt64) + (1 : Int64))).toInt32)), .val (.float (FP.fdiv (FP.i2f ((own_lrem ((p1.toInt64) &&& (4294967295 : Int64)) (((maxF (1 : Int32) (p0 &&& (2147483647 : Int32))).toInt64) + (1 : Int64))).toInt32)) (FP.i2f (maxF (1 : Int32) (p0 &&& (2147483647 : Int32)))))), .val (.float (FP.d2f (FP.ddiv (FP.f2d (FP.i2f ((own_lrem ((p1.toInt64) &&& (4294967295 : Int64)) (((maxF (1 : Int32) (p0 &&& (2147483647 : Int32))).toInt64) + (1 : Int64))).toInt32))) (FP.f2d (FP.i2f (maxF (1 : Int32) (p0 &&& (2147483647 : Int32)))))))), .val (.int (1 : Int32)), .unset] [(.int (1 : Int32))])) t
        refine XS.istore X0_4.here hx rfl (hb hby at_108) rfl (l' := #[.val (.int p0), .val (.int p1), .val (.int p2), .val (.ref b0_1), .val (.int (maxF (1 : Int32) (p0 &&& (2147483647 : Int32)))), .val (.long (((maxF (1 : Int32) (p0 &&& (2147483647 : Int32))).toInt64) + (1 : Int64))), .second, .val (.int ((own_lrem ((p1.toInt64) &&& (4294967295 : Int64)) (((maxF (1 : Int32) (p0 &&& (2147483647 : Int32))).toInt64) + (1 : Int64))).toInt32)), .val (.float (FP.fdiv (FP.i2f ((own_lrem ((p1.toInt64) &&& (4294967295 : Int64)) (((maxF (1 : Int32) (p0 &&& (2147483647 : Int32))).toInt64) + (1 : Int64))).toInt32)) (FP.i2f (maxF (1 : Int32) (p0 &&& (2147483647 : Int32)))))), .val (.float (FP.d2f (FP.ddiv (FP.f2d (FP.i2f ((own_lrem ((p1.toInt64) &&& (4294967295 : Int64)) (((maxF (1 : Int32) (p0 &&& (2147483647 : Int32))).toInt64) + (1 : Int64))).toInt32))) (FP.f2d (FP.i2f (maxF (1 : Int32) (p0 &&& (2147483647 : Int32)))))))), .val (.int (1 : Int32)), .val (.int (1 : Int32))]) rfl ?_
        show Steps p.tables e below (T0_4.setTop (mkF m 110 #[.val (.int p0), .val (.int p1), .val (.int p2), .val (.ref b0_1), .val (.int (maxF (1 : Int32) (p0 &&& (2147483647 : Int32)))), .val (.long (((maxF (1 : Int32) (p0 &&& (2147483647 : Int32))).toInt64) + (1 : Int64))), .second, .val (.int ((own_lrem ((p1.toInt64) &&& (4294967295 : Int64)) (((maxF (1 : Int32) (p0 &&& (2147483647 : Int32))).toInt64) + (1 : Int64))).toInt32)), .val (.float (FP.fdiv (FP.i2f ((own_lrem ((p1.toInt64) &&& (4294967295 : Int64)) (((maxF (1 : Int32) (p0 &&& (2147483647 : Int32))).toInt64) + (1 : Int64))).toInt32)) (FP.i2f (maxF (1 : Int32) (p0 &&& (2147483647 : Int32)))))), .val (.float (FP.d2f (FP.ddiv (FP.f2d (FP.i2f ((own_lrem ((p1.toInt64) &&& (4294967295 : Int64)) (((maxF (1 : Int32) (p0 &&& (2147483647 : Int32))).toInt64) + (1 : Int64))).toInt32))) (FP.f2d (FP.i2f (maxF (1 : Int32) (p0 &&& (2147483647 : Int32)))))))), .val (.int (1 : Int32)), .val (.int (1 : Int32))] [])) t
        refine XS.fload X0_4.here hx rfl (hb hby at_110) rfl ?_
        show Steps p.tables e below (T0_4.setTop (mkF m 112 #[.val (.int p0), .val (.int p1), .val (.int p2), .val (.ref b0_1), .val (.int (maxF (1 : Int32) (p0 &&& (2147483647 : Int32)))), .val (.long (((maxF (1 : Int32) (p0 &&& (2147483647 : Int32))).toInt64) + (1 : Int64))), .second, .val (.int ((own_lrem ((p1.toInt64) &&& (4294967295 : Int64)) (((maxF (1 : Int32) (p0 &&& (2147483647 : Int32))).toInt64) + (1 : Int64))).toInt32)), .val (.float (FP.fdiv (FP.i2f ((own_lrem ((p1.toInt64) &&& (4294967295 : Int64)) (((maxF (1 : Int32) (p0 &&& (2147483647 : Int32))).toInt64) + (1 : Int64))).toInt32)) (FP.i2f (maxF (1 : Int32) (p0 &&& (2147483647 : Int32)))))), .val (.float (FP.d2f (FP.ddiv (FP.f2d (FP.i2f ((own_lrem ((p1.toInt64) &&& (4294967295 : Int64)) (((maxF (1 : Int32) (p0 &&& (2147483647 : Int32))).toInt64) + (1 : Int64))).toInt32))) (FP.f2d (FP.i2f (maxF (1 : Int32) (p0 &&& (2147483647 : Int32)))))))), .val (.int (1 : Int32)), .val (.int (1 : Int32))] [(.float (FP.fdiv (FP.i2f ((own_lrem ((p1.toInt64) &&& (4294967295 : Int64)) (((maxF (1 : Int32) (p0 &&& (2147483647 : Int32))).toInt64) + (1 : Int64))).toInt32)) (FP.i2f (maxF (1 : Int32) (p0 &&& (2147483647 : Int32))))))])) t
        refine XS.fload X0_4.here hx rfl (hb hby at_112) rfl ?_
        show Steps p.tables e below (T0_4.setTop (mkF m 114 #[.val (.int p0), .val (.int p1), .val (.int p2), .val (.ref b0_1), .val (.int (maxF (1 : Int32) (p0 &&& (2147483647 : Int32)))), .val (.long (((maxF (1 : Int32) (p0 &&& (2147483647 : Int32))).toInt64) + (1 : Int64))), .second, .val (.int ((own_lrem ((p1.toInt64) &&& (4294967295 : Int64)) (((maxF (1 : Int32) (p0 &&& (2147483647 : Int32))).toInt64) + (1 : Int64))).toInt32)), .val (.float (FP.fdiv (FP.i2f ((own_lrem ((p1.toInt64) &&& (4294967295 : Int64)) (((maxF (1 : Int32) (p0 &&& (2147483647 : Int32))).toInt64) + (1 : Int64))).toInt32)) (FP.i2f (maxF (1 : Int32) (p0 &&& (2147483647 : Int32)))))), .val (.float (FP.d2f (FP.ddiv (FP.f2d (FP.i2f ((own_lrem ((p1.toInt64) &&& (4294967295 : Int64)) (((maxF (1 : Int32) (p0 &&& (2147483647 : Int32))).toInt64) + (1 : Int64))).toInt32))) (FP.f2d (FP.i2f (maxF (1 : Int32) (p0 &&& (2147483647 : Int32)))))))), .val (.int (1 : Int32)), .val (.int (1 : Int32))] [(.float (FP.d2f (FP.ddiv (FP.f2d (FP.i2f ((own_lrem ((p1.toInt64) &&& (4294967295 : Int64)) (((maxF (1 : Int32) (p0 &&& (2147483647 : Int32))).toInt64) + (1 : Int64))).toInt32))) (FP.f2d (FP.i2f (maxF (1 : Int32) (p0 &&& (2147483647 : Int32)))))))), (.float (FP.fdiv (FP.i2f ((own_lrem ((p1.toInt64) &&& (4294967295 : Int64)) (((maxF (1 : Int32) (p0 &&& (2147483647 : Int32))).toInt64) + (1 : Int64))).toInt32)) (FP.i2f (maxF (1 : Int32) (p0 &&& (2147483647 : Int32))))))])) t
        refine XS.fcmpS X0_4.here hx rfl (hb hby at_114) rfl rfl ?_
        show Steps p.tables e below (T0_4.setTop (mkF m 115 #[.val (.int p0), .val (.int p1), .val (.int p2), .val (.ref b0_1), .val (.int (maxF (1 : Int32) (p0 &&& (2147483647 : Int32)))), .val (.long (((maxF (1 : Int32) (p0 &&& (2147483647 : Int32))).toInt64) + (1 : Int64))), .second, .val (.int ((own_lrem ((p1.toInt64) &&& (4294967295 : Int64)) (((maxF (1 : Int32) (p0 &&& (2147483647 : Int32))).toInt64) + (1 : Int64))).toInt32)), .val (.float (FP.fdiv (FP.i2f ((own_lrem ((p1.toInt64) &&& (4294967295 : Int64)) (((maxF (1 : Int32) (p0 &&& (2147483647 : Int32))).toInt64) + (1 : Int64))).toInt32)) (FP.i2f (maxF (1 : Int32) (p0 &&& (2147483647 : Int32)))))), .val (.float (FP.d2f (FP.ddiv (FP.f2d (FP.i2f ((own_lrem ((p1.toInt64) &&& (4294967295 : Int64)) (((maxF (1 : Int32) (p0 &&& (2147483647 : Int32))).toInt64) + (1 : Int64))).toInt32))) (FP.f2d (FP.i2f (maxF (1 : Int32) (p0 &&& (2147483647 : Int32)))))))), .val (.int (1 : Int32)), .val (.int (1 : Int32))] [(.int (cmpValue (FP.fcmp (FP.fdiv (FP.i2f ((own_lrem ((p1.toInt64) &&& (4294967295 : Int64)) (((maxF (1 : Int32) (p0 &&& (2147483647 : Int32))).toInt64) + (1 : Int64))).toInt32)) (FP.i2f (maxF (1 : Int32) (p0 &&& (2147483647 : Int32))))) (FP.d2f (FP.ddiv (FP.f2d (FP.i2f ((own_lrem ((p1.toInt64) &&& (4294967295 : Int64)) (((maxF (1 : Int32) (p0 &&& (2147483647 : Int32))).toInt64) + (1 : Int64))).toInt32))) (FP.f2d (FP.i2f (maxF (1 : Int32) (p0 &&& (2147483647 : Int32)))))))) .l))])) t
        refine XS.ifNo X0_4.here hx rfl (hb hby at_115) rfl ((if0 _ _).trans (teq (fcmpV_eq (own_co p0 p1).2.2.2.2.2.1 (own_co p0 p1).1 .l)).2) ?_
        show Steps p.tables e below (T0_4.setTop (mkF m 118 #[.val (.int p0), .val (.int p1), .val (.int p2), .val (.ref b0_1), .val (.int (maxF (1 : Int32) (p0 &&& (2147483647 : Int32)))), .val (.long (((maxF (1 : Int32) (p0 &&& (2147483647 : Int32))).toInt64) + (1 : Int64))), .second, .val (.int ((own_lrem ((p1.toInt64) &&& (4294967295 : Int64)) (((maxF (1 : Int32) (p0 &&& (2147483647 : Int32))).toInt64) + (1 : Int64))).toInt32)), .val (.float (FP.fdiv (FP.i2f ((own_lrem ((p1.toInt64) &&& (4294967295 : Int64)) (((maxF (1 : Int32) (p0 &&& (2147483647 : Int32))).toInt64) + (1 : Int64))).toInt32)) (FP.i2f (maxF (1 : Int32) (p0 &&& (2147483647 : Int32)))))), .val (.float (FP.d2f (FP.ddiv (FP.f2d (FP.i2f ((own_lrem ((p1.toInt64) &&& (4294967295 : Int64)) (((maxF (1 : Int32) (p0 &&& (2147483647 : Int32))).toInt64) + (1 : Int64))).toInt32))) (FP.f2d (FP.i2f (maxF (1 : Int32) (p0 &&& (2147483647 : Int32)))))))), .val (.int (1 : Int32)), .val (.int (1 : Int32))] [])) t
        refine XS.fconst0 X0_4.here hx rfl (hb hby at_118) rfl ?_
        show Steps p.tables e below (T0_4.setTop (mkF m 119 #[.val (.int p0), .val (.int p1), .val (.int p2), .val (.ref b0_1), .val (.int (maxF (1 : Int32) (p0 &&& (2147483647 : Int32)))), .val (.long (((maxF (1 : Int32) (p0 &&& (2147483647 : Int32))).toInt64) + (1 : Int64))), .second, .val (.int ((own_lrem ((p1.toInt64) &&& (4294967295 : Int64)) (((maxF (1 : Int32) (p0 &&& (2147483647 : Int32))).toInt64) + (1 : Int64))).toInt32)), .val (.float (FP.fdiv (FP.i2f ((own_lrem ((p1.toInt64) &&& (4294967295 : Int64)) (((maxF (1 : Int32) (p0 &&& (2147483647 : Int32))).toInt64) + (1 : Int64))).toInt32)) (FP.i2f (maxF (1 : Int32) (p0 &&& (2147483647 : Int32)))))), .val (.float (FP.d2f (FP.ddiv (FP.f2d (FP.i2f ((own_lrem ((p1.toInt64) &&& (4294967295 : Int64)) (((maxF (1 : Int32) (p0 &&& (2147483647 : Int32))).toInt64) + (1 : Int64))).toInt32))) (FP.f2d (FP.i2f (maxF (1 : Int32) (p0 &&& (2147483647 : Int32)))))))), .val (.int (1 : Int32)), .val (.int (1 : Int32))] [(.float FP.fconst0)])) t
        refine XS.fload X0_4.here hx rfl (hb hby at_119) rfl ?_
        show Steps p.tables e below (T0_4.setTop (mkF m 121 #[.val (.int p0), .val (.int p1), .val (.int p2), .val (.ref b0_1), .val (.int (maxF (1 : Int32) (p0 &&& (2147483647 : Int32)))), .val (.long (((maxF (1 : Int32) (p0 &&& (2147483647 : Int32))).toInt64) + (1 : Int64))), .second, .val (.int ((own_lrem ((p1.toInt64) &&& (4294967295 : Int64)) (((maxF (1 : Int32) (p0 &&& (2147483647 : Int32))).toInt64) + (1 : Int64))).toInt32)), .val (.float (FP.fdiv (FP.i2f ((own_lrem ((p1.toInt64) &&& (4294967295 : Int64)) (((maxF (1 : Int32) (p0 &&& (2147483647 : Int32))).toInt64) + (1 : Int64))).toInt32)) (FP.i2f (maxF (1 : Int32) (p0 &&& (2147483647 : Int32)))))), .val (.float (FP.d2f (FP.ddiv (FP.f2d (FP.i2f ((own_lrem ((p1.toInt64) &&& (4294967295 : Int64)) (((maxF (1 : Int32) (p0 &&& (2147483647 : Int32))).toInt64) + (1 : Int64))).toInt32))) (FP.f2d (FP.i2f (maxF (1 : Int32) (p0 &&& (2147483647 : Int32)))))))), .val (.int (1 : Int32)), .val (.int (1 : Int32))] [(.float (FP.fdiv (FP.i2f ((own_lrem ((p1.toInt64) &&& (4294967295 : Int64)) (((maxF (1 : Int32) (p0 &&& (2147483647 : Int32))).toInt64) + (1 : Int64))).toInt32)) (FP.i2f (maxF (1 : Int32) (p0 &&& (2147483647 : Int32)))))), (.float FP.fconst0)])) t
        refine XS.fcmpS X0_4.here hx rfl (hb hby at_121) rfl rfl ?_
        show Steps p.tables e below (T0_4.setTop (mkF m 122 #[.val (.int p0), .val (.int p1), .val (.int p2), .val (.ref b0_1), .val (.int (maxF (1 : Int32) (p0 &&& (2147483647 : Int32)))), .val (.long (((maxF (1 : Int32) (p0 &&& (2147483647 : Int32))).toInt64) + (1 : Int64))), .second, .val (.int ((own_lrem ((p1.toInt64) &&& (4294967295 : Int64)) (((maxF (1 : Int32) (p0 &&& (2147483647 : Int32))).toInt64) + (1 : Int64))).toInt32)), .val (.float (FP.fdiv (FP.i2f ((own_lrem ((p1.toInt64) &&& (4294967295 : Int64)) (((maxF (1 : Int32) (p0 &&& (2147483647 : Int32))).toInt64) + (1 : Int64))).toInt32)) (FP.i2f (maxF (1 : Int32) (p0 &&& (2147483647 : Int32)))))), .val (.float (FP.d2f (FP.ddiv (FP.f2d (FP.i2f ((own_lrem ((p1.toInt64) &&& (4294967295 : Int64)) (((maxF (1 : Int32) (p0 &&& (2147483647 : Int32))).toInt64) + (1 : Int64))).toInt32))) (FP.f2d (FP.i2f (maxF (1 : Int32) (p0 &&& (2147483647 : Int32)))))))), .val (.int (1 : Int32)), .val (.int (1 : Int32))] [(.int (cmpValue (FP.fcmp FP.fconst0 (FP.fdiv (FP.i2f ((own_lrem ((p1.toInt64) &&& (4294967295 : Int64)) (((maxF (1 : Int32) (p0 &&& (2147483647 : Int32))).toInt64) + (1 : Int64))).toInt32)) (FP.i2f (maxF (1 : Int32) (p0 &&& (2147483647 : Int32)))))) .g))])) t
        refine XS.ifNo X0_4.here hx rfl (hb hby at_122) rfl ((if0 _ _).trans (flt (own_ge0 (own_co p0 p1).2.2.2.2.2.2.2.2.1.choose_spec.choose_spec)).2.2.1) ?_
        show Steps p.tables e below (T0_4.setTop (mkF m 125 #[.val (.int p0), .val (.int p1), .val (.int p2), .val (.ref b0_1), .val (.int (maxF (1 : Int32) (p0 &&& (2147483647 : Int32)))), .val (.long (((maxF (1 : Int32) (p0 &&& (2147483647 : Int32))).toInt64) + (1 : Int64))), .second, .val (.int ((own_lrem ((p1.toInt64) &&& (4294967295 : Int64)) (((maxF (1 : Int32) (p0 &&& (2147483647 : Int32))).toInt64) + (1 : Int64))).toInt32)), .val (.float (FP.fdiv (FP.i2f ((own_lrem ((p1.toInt64) &&& (4294967295 : Int64)) (((maxF (1 : Int32) (p0 &&& (2147483647 : Int32))).toInt64) + (1 : Int64))).toInt32)) (FP.i2f (maxF (1 : Int32) (p0 &&& (2147483647 : Int32)))))), .val (.float (FP.d2f (FP.ddiv (FP.f2d (FP.i2f ((own_lrem ((p1.toInt64) &&& (4294967295 : Int64)) (((maxF (1 : Int32) (p0 &&& (2147483647 : Int32))).toInt64) + (1 : Int64))).toInt32))) (FP.f2d (FP.i2f (maxF (1 : Int32) (p0 &&& (2147483647 : Int32)))))))), .val (.int (1 : Int32)), .val (.int (1 : Int32))] [])) t
        refine XS.fload X0_4.here hx rfl (hb hby at_125) rfl ?_
        show Steps p.tables e below (T0_4.setTop (mkF m 127 #[.val (.int p0), .val (.int p1), .val (.int p2), .val (.ref b0_1), .val (.int (maxF (1 : Int32) (p0 &&& (2147483647 : Int32)))), .val (.long (((maxF (1 : Int32) (p0 &&& (2147483647 : Int32))).toInt64) + (1 : Int64))), .second, .val (.int ((own_lrem ((p1.toInt64) &&& (4294967295 : Int64)) (((maxF (1 : Int32) (p0 &&& (2147483647 : Int32))).toInt64) + (1 : Int64))).toInt32)), .val (.float (FP.fdiv (FP.i2f ((own_lrem ((p1.toInt64) &&& (4294967295 : Int64)) (((maxF (1 : Int32) (p0 &&& (2147483647 : Int32))).toInt64) + (1 : Int64))).toInt32)) (FP.i2f (maxF (1 : Int32) (p0 &&& (2147483647 : Int32)))))), .val (.float (FP.d2f (FP.ddiv (FP.f2d (FP.i2f ((own_lrem ((p1.toInt64) &&& (4294967295 : Int64)) (((maxF (1 : Int32) (p0 &&& (2147483647 : Int32))).toInt64) + (1 : Int64))).toInt32))) (FP.f2d (FP.i2f (maxF (1 : Int32) (p0 &&& (2147483647 : Int32)))))))), .val (.int (1 : Int32)), .val (.int (1 : Int32))] [(.float (FP.fdiv (FP.i2f ((own_lrem ((p1.toInt64) &&& (4294967295 : Int64)) (((maxF (1 : Int32) (p0 &&& (2147483647 : Int32))).toInt64) + (1 : Int64))).toInt32)) (FP.i2f (maxF (1 : Int32) (p0 &&& (2147483647 : Int32))))))])) t
        refine XS.fconst1 X0_4.here hx rfl (hb hby at_127) rfl ?_
        show Steps p.tables e below (T0_4.setTop (mkF m 128 #[.val (.int p0), .val (.int p1), .val (.int p2), .val (.ref b0_1), .val (.int (maxF (1 : Int32) (p0 &&& (2147483647 : Int32)))), .val (.long (((maxF (1 : Int32) (p0 &&& (2147483647 : Int32))).toInt64) + (1 : Int64))), .second, .val (.int ((own_lrem ((p1.toInt64) &&& (4294967295 : Int64)) (((maxF (1 : Int32) (p0 &&& (2147483647 : Int32))).toInt64) + (1 : Int64))).toInt32)), .val (.float (FP.fdiv (FP.i2f ((own_lrem ((p1.toInt64) &&& (4294967295 : Int64)) (((maxF (1 : Int32) (p0 &&& (2147483647 : Int32))).toInt64) + (1 : Int64))).toInt32)) (FP.i2f (maxF (1 : Int32) (p0 &&& (2147483647 : Int32)))))), .val (.float (FP.d2f (FP.ddiv (FP.f2d (FP.i2f ((own_lrem ((p1.toInt64) &&& (4294967295 : Int64)) (((maxF (1 : Int32) (p0 &&& (2147483647 : Int32))).toInt64) + (1 : Int64))).toInt32))) (FP.f2d (FP.i2f (maxF (1 : Int32) (p0 &&& (2147483647 : Int32)))))))), .val (.int (1 : Int32)), .val (.int (1 : Int32))] [(.float FP.fconst1), (.float (FP.fdiv (FP.i2f ((own_lrem ((p1.toInt64) &&& (4294967295 : Int64)) (((maxF (1 : Int32) (p0 &&& (2147483647 : Int32))).toInt64) + (1 : Int64))).toInt32)) (FP.i2f (maxF (1 : Int32) (p0 &&& (2147483647 : Int32))))))])) t
        refine XS.fcmpS X0_4.here hx rfl (hb hby at_128) rfl rfl ?_
        show Steps p.tables e below (T0_4.setTop (mkF m 129 #[.val (.int p0), .val (.int p1), .val (.int p2), .val (.ref b0_1), .val (.int (maxF (1 : Int32) (p0 &&& (2147483647 : Int32)))), .val (.long (((maxF (1 : Int32) (p0 &&& (2147483647 : Int32))).toInt64) + (1 : Int64))), .second, .val (.int ((own_lrem ((p1.toInt64) &&& (4294967295 : Int64)) (((maxF (1 : Int32) (p0 &&& (2147483647 : Int32))).toInt64) + (1 : Int64))).toInt32)), .val (.float (FP.fdiv (FP.i2f ((own_lrem ((p1.toInt64) &&& (4294967295 : Int64)) (((maxF (1 : Int32) (p0 &&& (2147483647 : Int32))).toInt64) + (1 : Int64))).toInt32)) (FP.i2f (maxF (1 : Int32) (p0 &&& (2147483647 : Int32)))))), .val (.float (FP.d2f (FP.ddiv (FP.f2d (FP.i2f ((own_lrem ((p1.toInt64) &&& (4294967295 : Int64)) (((maxF (1 : Int32) (p0 &&& (2147483647 : Int32))).toInt64) + (1 : Int64))).toInt32))) (FP.f2d (FP.i2f (maxF (1 : Int32) (p0 &&& (2147483647 : Int32)))))))), .val (.int (1 : Int32)), .val (.int (1 : Int32))] [(.int (cmpValue (FP.fcmp (FP.fdiv (FP.i2f ((own_lrem ((p1.toInt64) &&& (4294967295 : Int64)) (((maxF (1 : Int32) (p0 &&& (2147483647 : Int32))).toInt64) + (1 : Int64))).toInt32)) (FP.i2f (maxF (1 : Int32) (p0 &&& (2147483647 : Int32))))) FP.fconst1) .g))])) t
        refine XS.ifNo X0_4.here hx rfl (hb hby at_129) rfl ((if0 _ _).trans (flt (own_le1 (own_co p0 p1).2.2.2.2.2.2.2.2.1.choose_spec.choose_spec (own_co p0 p1).2.2.2.2.2.2.2.2.2)).2.2.1) ?_
        show Steps p.tables e below (T0_4.setTop (mkF m 132 #[.val (.int p0), .val (.int p1), .val (.int p2), .val (.ref b0_1), .val (.int (maxF (1 : Int32) (p0 &&& (2147483647 : Int32)))), .val (.long (((maxF (1 : Int32) (p0 &&& (2147483647 : Int32))).toInt64) + (1 : Int64))), .second, .val (.int ((own_lrem ((p1.toInt64) &&& (4294967295 : Int64)) (((maxF (1 : Int32) (p0 &&& (2147483647 : Int32))).toInt64) + (1 : Int64))).toInt32)), .val (.float (FP.fdiv (FP.i2f ((own_lrem ((p1.toInt64) &&& (4294967295 : Int64)) (((maxF (1 : Int32) (p0 &&& (2147483647 : Int32))).toInt64) + (1 : Int64))).toInt32)) (FP.i2f (maxF (1 : Int32) (p0 &&& (2147483647 : Int32)))))), .val (.float (FP.d2f (FP.ddiv (FP.f2d (FP.i2f ((own_lrem ((p1.toInt64) &&& (4294967295 : Int64)) (((maxF (1 : Int32) (p0 &&& (2147483647 : Int32))).toInt64) + (1 : Int64))).toInt32))) (FP.f2d (FP.i2f (maxF (1 : Int32) (p0 &&& (2147483647 : Int32)))))))), .val (.int (1 : Int32)), .val (.int (1 : Int32))] [])) t
        refine XS.iload X0_4.here hx rfl (hb hby at_132) rfl ?_
        show Steps p.tables e below (T0_4.setTop (mkF m 134 #[.val (.int p0), .val (.int p1), .val (.int p2), .val (.ref b0_1), .val (.int (maxF (1 : Int32) (p0 &&& (2147483647 : Int32)))), .val (.long (((maxF (1 : Int32) (p0 &&& (2147483647 : Int32))).toInt64) + (1 : Int64))), .second, .val (.int ((own_lrem ((p1.toInt64) &&& (4294967295 : Int64)) (((maxF (1 : Int32) (p0 &&& (2147483647 : Int32))).toInt64) + (1 : Int64))).toInt32)), .val (.float (FP.fdiv (FP.i2f ((own_lrem ((p1.toInt64) &&& (4294967295 : Int64)) (((maxF (1 : Int32) (p0 &&& (2147483647 : Int32))).toInt64) + (1 : Int64))).toInt32)) (FP.i2f (maxF (1 : Int32) (p0 &&& (2147483647 : Int32)))))), .val (.float (FP.d2f (FP.ddiv (FP.f2d (FP.i2f ((own_lrem ((p1.toInt64) &&& (4294967295 : Int64)) (((maxF (1 : Int32) (p0 &&& (2147483647 : Int32))).toInt64) + (1 : Int64))).toInt32))) (FP.f2d (FP.i2f (maxF (1 : Int32) (p0 &&& (2147483647 : Int32)))))))), .val (.int (1 : Int32)), .val (.int (1 : Int32))] [(.int (1 : Int32))])) t
        refine XS.ifNo X0_4.here hx rfl (hb hby at_134) rfl ((if0 _ _).trans (feq (by decide : ¬ ((1 : Int32) = (0 : Int32)))).1) ?_
        show Steps p.tables e below (T0_4.setTop (mkF m 137 #[.val (.int p0), .val (.int p1), .val (.int p2), .val (.ref b0_1), .val (.int (maxF (1 : Int32) (p0 &&& (2147483647 : Int32)))), .val (.long (((maxF (1 : Int32) (p0 &&& (2147483647 : Int32))).toInt64) + (1 : Int64))), .second, .val (.int ((own_lrem ((p1.toInt64) &&& (4294967295 : Int64)) (((maxF (1 : Int32) (p0 &&& (2147483647 : Int32))).toInt64) + (1 : Int64))).toInt32)), .val (.float (FP.fdiv (FP.i2f ((own_lrem ((p1.toInt64) &&& (4294967295 : Int64)) (((maxF (1 : Int32) (p0 &&& (2147483647 : Int32))).toInt64) + (1 : Int64))).toInt32)) (FP.i2f (maxF (1 : Int32) (p0 &&& (2147483647 : Int32)))))), .val (.float (FP.d2f (FP.ddiv (FP.f2d (FP.i2f ((own_lrem ((p1.toInt64) &&& (4294967295 : Int64)) (((maxF (1 : Int32) (p0 &&& (2147483647 : Int32))).toInt64) + (1 : Int64))).toInt32))) (FP.f2d (FP.i2f (maxF (1 : Int32) (p0 &&& (2147483647 : Int32)))))))), .val (.int (1 : Int32)), .val (.int (1 : Int32))] [])) t
        refine XS.iload X0_4.here hx rfl (hb hby at_137) rfl ?_
        show Steps p.tables e below (T0_4.setTop (mkF m 139 #[.val (.int p0), .val (.int p1), .val (.int p2), .val (.ref b0_1), .val (.int (maxF (1 : Int32) (p0 &&& (2147483647 : Int32)))), .val (.long (((maxF (1 : Int32) (p0 &&& (2147483647 : Int32))).toInt64) + (1 : Int64))), .second, .val (.int ((own_lrem ((p1.toInt64) &&& (4294967295 : Int64)) (((maxF (1 : Int32) (p0 &&& (2147483647 : Int32))).toInt64) + (1 : Int64))).toInt32)), .val (.float (FP.fdiv (FP.i2f ((own_lrem ((p1.toInt64) &&& (4294967295 : Int64)) (((maxF (1 : Int32) (p0 &&& (2147483647 : Int32))).toInt64) + (1 : Int64))).toInt32)) (FP.i2f (maxF (1 : Int32) (p0 &&& (2147483647 : Int32)))))), .val (.float (FP.d2f (FP.ddiv (FP.f2d (FP.i2f ((own_lrem ((p1.toInt64) &&& (4294967295 : Int64)) (((maxF (1 : Int32) (p0 &&& (2147483647 : Int32))).toInt64) + (1 : Int64))).toInt32))) (FP.f2d (FP.i2f (maxF (1 : Int32) (p0 &&& (2147483647 : Int32)))))))), .val (.int (1 : Int32)), .val (.int (1 : Int32))] [(.int (1 : Int32))])) t
        refine XS.ifNo X0_4.here hx rfl (hb hby at_139) rfl ((if0 _ _).trans (feq (by decide : ¬ ((1 : Int32) = (0 : Int32)))).1) ?_
        show Steps p.tables e below (T0_4.setTop (mkF m 142 #[.val (.int p0), .val (.int p1), .val (.int p2), .val (.ref b0_1), .val (.int (maxF (1 : Int32) (p0 &&& (2147483647 : Int32)))), .val (.long (((maxF (1 : Int32) (p0 &&& (2147483647 : Int32))).toInt64) + (1 : Int64))), .second, .val (.int ((own_lrem ((p1.toInt64) &&& (4294967295 : Int64)) (((maxF (1 : Int32) (p0 &&& (2147483647 : Int32))).toInt64) + (1 : Int64))).toInt32)), .val (.float (FP.fdiv (FP.i2f ((own_lrem ((p1.toInt64) &&& (4294967295 : Int64)) (((maxF (1 : Int32) (p0 &&& (2147483647 : Int32))).toInt64) + (1 : Int64))).toInt32)) (FP.i2f (maxF (1 : Int32) (p0 &&& (2147483647 : Int32)))))), .val (.float (FP.d2f (FP.ddiv (FP.f2d (FP.i2f ((own_lrem ((p1.toInt64) &&& (4294967295 : Int64)) (((maxF (1 : Int32) (p0 &&& (2147483647 : Int32))).toInt64) + (1 : Int64))).toInt32))) (FP.f2d (FP.i2f (maxF (1 : Int32) (p0 &&& (2147483647 : Int32)))))))), .val (.int (1 : Int32)), .val (.int (1 : Int32))] [])) t
        refine XS.iconst X0_4.here hx rfl (hb hby at_142) ?_
        show Steps p.tables e below (T0_4.setTop (mkF m 143 #[.val (.int p0), .val (.int p1), .val (.int p2), .val (.ref b0_1), .val (.int (maxF (1 : Int32) (p0 &&& (2147483647 : Int32)))), .val (.long (((maxF (1 : Int32) (p0 &&& (2147483647 : Int32))).toInt64) + (1 : Int64))), .second, .val (.int ((own_lrem ((p1.toInt64) &&& (4294967295 : Int64)) (((maxF (1 : Int32) (p0 &&& (2147483647 : Int32))).toInt64) + (1 : Int64))).toInt32)), .val (.float (FP.fdiv (FP.i2f ((own_lrem ((p1.toInt64) &&& (4294967295 : Int64)) (((maxF (1 : Int32) (p0 &&& (2147483647 : Int32))).toInt64) + (1 : Int64))).toInt32)) (FP.i2f (maxF (1 : Int32) (p0 &&& (2147483647 : Int32)))))), .val (.float (FP.d2f (FP.ddiv (FP.f2d (FP.i2f ((own_lrem ((p1.toInt64) &&& (4294967295 : Int64)) (((maxF (1 : Int32) (p0 &&& (2147483647 : Int32))).toInt64) + (1 : Int64))).toInt32))) (FP.f2d (FP.i2f (maxF (1 : Int32) (p0 &&& (2147483647 : Int32)))))))), .val (.int (1 : Int32)), .val (.int (1 : Int32))] [(.int (1 : Int32))])) t
        refine XS.goto X0_4.here hx rfl (pc0 := 143) (pc' := 147) rfl (hb hby at_143) (by decide) (by decide) ?_
        exact k
      obtain ⟨fs, hr, hrun, hended, hW, hsame⟩ := X0_4.leave (v := some (.int (nar .boolean (1 : Int32)))) (fun h => by rw [Bd.returns] at h; cases h)
      refine ⟨_, _, retN X0_4 hx (t := .boolean) Bd.returns (by simp) (hb hby at_147) hr, hrun, hended, _, _, rfl, ?_, ⟨_, rfl⟩, hW, hsame.mono (by decide) (by decide)⟩
      have eh : (T0_4.setFrames fs).heap = T0_2.heap := e0_4
      rw [eh]
      exact ⟨rfl, N0_4⟩
    · refine own_fw (A := T0_4.setTop (mkF m 103 #[.val (.int p0), .val (.int p1), .val (.int p2), .val (.ref b0_1), .val (.int (maxF (1 : Int32) (p0 &&& (2147483647 : Int32)))), .val (.long (((maxF (1 : Int32) (p0 &&& (2147483647 : Int32))).toInt64) + (1 : Int64))), .second, .val (.int ((own_lrem ((p1.toInt64) &&& (4294967295 : Int64)) (((maxF (1 : Int32) (p0 &&& (2147483647 : Int32))).toInt64) + (1 : Int64))).toInt32)), .val (.float (FP.fdiv (FP.i2f ((own_lrem ((p1.toInt64) &&& (4294967295 : Int64)) (((maxF (1 : Int32) (p0 &&& (2147483647 : Int32))).toInt64) + (1 : Int64))).toInt32)) (FP.i2f (maxF (1 : Int32) (p0 &&& (2147483647 : Int32)))))), .val (.float (FP.d2f (FP.ddiv (FP.f2d (FP.i2f ((own_lrem ((p1.toInt64) &&& (4294967295 : Int64)) (((maxF (1 : Int32) (p0 &&& (2147483647 : Int32))).toInt64) + (1 : Int64))).toInt32))) (FP.f2d (FP.i2f (maxF (1 : Int32) (p0 &&& (2147483647 : Int32)))))))), .val (.int (1 : Int32)), .unset] [])) (fun t k => ?_) ?_
      · show Steps p.tables e below (T0_4.setTop (mkF m 93 #[.val (.int p0), .val (.int p1), .val (.int p2), .val (.ref b0_1), .val (.int (maxF (1 : Int32) (p0 &&& (2147483647 : Int32)))), .val (.long (((maxF (1 : Int32) (p0 &&& (2147483647 : Int32))).toInt64) + (1 : Int64))), .second, .val (.int ((own_lrem ((p1.toInt64) &&& (4294967295 : Int64)) (((maxF (1 : Int32) (p0 &&& (2147483647 : Int32))).toInt64) + (1 : Int64))).toInt32)), .val (.float (FP.fdiv (FP.i2f ((own_lrem ((p1.toInt64) &&& (4294967295 : Int64)) (((maxF (1 : Int32) (p0 &&& (2147483647 : Int32))).toInt64) + (1 : Int64))).toInt32)) (FP.i2f (maxF (1 : Int32) (p0 &&& (2147483647 : Int32)))))), .val (.float (FP.d2f (FP.ddiv (FP.f2d (FP.i2f ((own_lrem ((p1.toInt64) &&& (4294967295 : Int64)) (((maxF (1 : Int32) (p0 &&& (2147483647 : Int32))).toInt64) + (1 : Int64))).toInt32))) (FP.f2d (FP.i2f (maxF (1 : Int32) (p0 &&& (2147483647 : Int32)))))))), .val (.int (1 : Int32)), .unset] [(.int ((own_lrem ((p1.toInt64) &&& (4294967295 : Int64)) (((maxF (1 : Int32) (p0 &&& (2147483647 : Int32))).toInt64) + (1 : Int64))).toInt32))])) t
        refine XS.ifYes X0_4.here hx rfl (pc0 := 93) (pc' := 103) rfl (hb hby at_93) rfl ((if0 _ _).trans (feq hc0_4).2) (by decide) (by decide) ?_
        exact k
      refine own_fw (A := T0_4.setTop (mkF m 147 #[.val (.int p0), .val (.int p1), .val (.int p2), .val (.ref b0_1), .val (.int (maxF (1 : Int32) (p0 &&& (2147483647 : Int32)))), .val (.long (((maxF (1 : Int32) (p0 &&& (2147483647 : Int32))).toInt64) + (1 : Int64))), .second, .val (.int ((own_lrem ((p1.toInt64) &&& (4294967295 : Int64)) (((maxF (1 : Int32) (p0 &&& (2147483647 : Int32))).toInt64) + (1 : Int64))).toInt32)), .val (.float (FP.fdiv (FP.i2f ((own_lrem ((p1.toInt64) &&& (4294967295 : Int64)) (((maxF (1 : Int32) (p0 &&& (2147483647 : Int32))).toInt64) + (1 : Int64))).toInt32)) (FP.i2f (maxF (1 : Int32) (p0 &&& (2147483647 : Int32)))))), .val (.float (FP.d2f (FP.ddiv (FP.f2d (FP.i2f ((own_lrem ((p1.toInt64) &&& (4294967295 : Int64)) (((maxF (1 : Int32) (p0 &&& (2147483647 : Int32))).toInt64) + (1 : Int64))).toInt32))) (FP.f2d (FP.i2f (maxF (1 : Int32) (p0 &&& (2147483647 : Int32)))))))), .val (.int (1 : Int32)), .val (.int (1 : Int32))] [(.int (1 : Int32))])) (fun t k => ?_) ?_
      · show Steps p.tables e below (T0_4.setTop (mkF m 103 #[.val (.int p0), .val (.int p1), .val (.int p2), .val (.ref b0_1), .val (.int (maxF (1 : Int32) (p0 &&& (2147483647 : Int32)))), .val (.long (((maxF (1 : Int32) (p0 &&& (2147483647 : Int32))).toInt64) + (1 : Int64))), .second, .val (.int ((own_lrem ((p1.toInt64) &&& (4294967295 : Int64)) (((maxF (1 : Int32) (p0 &&& (2147483647 : Int32))).toInt64) + (1 : Int64))).toInt32)), .val (.float (FP.fdiv (FP.i2f ((own_lrem ((p1.toInt64) &&& (4294967295 : Int64)) (((maxF (1 : Int32) (p0 &&& (2147483647 : Int32))).toInt64) + (1 : Int64))).toInt32)) (FP.i2f (maxF (1 : Int32) (p0 &&& (2147483647 : Int32)))))), .val (.float (FP.d2f (FP.ddiv (FP.f2d (FP.i2f ((own_lrem ((p1.toInt64) &&& (4294967295 : Int64)) (((maxF (1 : Int32) (p0 &&& (2147483647 : Int32))).toInt64) + (1 : Int64))).toInt32))) (FP.f2d (FP.i2f (maxF (1 : Int32) (p0 &&& (2147483647 : Int32)))))))), .val (.int (1 : Int32)), .unset] [])) t
        refine XS.iconst X0_4.here hx rfl (hb hby at_103) ?_
        show Steps p.tables e below (T0_4.setTop (mkF m 104 #[.val (.int p0), .val (.int p1), .val (.int p2), .val (.ref b0_1), .val (.int (maxF (1 : Int32) (p0 &&& (2147483647 : Int32)))), .val (.long (((maxF (1 : Int32) (p0 &&& (2147483647 : Int32))).toInt64) + (1 : Int64))), .second, .val (.int ((own_lrem ((p1.toInt64) &&& (4294967295 : Int64)) (((maxF (1 : Int32) (p0 &&& (2147483647 : Int32))).toInt64) + (1 : Int64))).toInt32)), .val (.float (FP.fdiv (FP.i2f ((own_lrem ((p1.toInt64) &&& (4294967295 : Int64)) (((maxF (1 : Int32) (p0 &&& (2147483647 : Int32))).toInt64) + (1 : Int64))).toInt32)) (FP.i2f (maxF (1 : Int32) (p0 &&& (2147483647 : Int32)))))), .val (.float (FP.d2f (FP.ddiv (FP.f2d (FP.i2f ((own_lrem ((p1.toInt64) &&& (4294967295 : Int64)) (((maxF (1 : Int32) (p0 &&& (2147483647 : Int32))).toInt64) + (1 : Int64))).toInt32))) (FP.f2d (FP.i2f (maxF (1 : Int32) (p0 &&& (2147483647 : Int32)))))))), .val (.int (1 : Int32)), .unset] [(.int (1 : Int32))])) t
        refine XS.goto X0_4.here hx rfl (pc0 := 104) (pc' := 108) rfl (hb hby at_104) (by decide) (by decide) ?_
        show Steps p.tables e below (T0_4.setTop (mkF m 108 #[.val (.int p0), .val (.int p1), .val (.int p2), .val (.ref b0_1), .val (.int (maxF (1 : Int32) (p0 &&& (2147483647 : Int32)))), .val (.long (((maxF (1 : Int32) (p0 &&& (2147483647 : Int32))).toInt64) + (1 : Int64))), .second, .val (.int ((own_lrem ((p1.toInt64) &&& (4294967295 : Int64)) (((maxF (1 : Int32) (p0 &&& (2147483647 : Int32))).toInt64) + (1 : Int64))).toInt32)), .val (.float (FP.fdiv (FP.i2f ((own_lrem ((p1.toInt64) &&& (4294967295 : Int64)) (((maxF (1 : Int32) (p0 &&& (2147483647 : Int32))).toInt64) + (1 : Int64))).toInt32)) (FP.i2f (maxF (1 : Int32) (p0 &&& (2147483647 : Int32)))))), .val (.float (FP.d2f (FP.ddiv (FP.f2d (FP.i2f ((own_lrem ((p1.toInt64) &&& (4294967295 : Int64)) (((maxF (1 : Int32) (p0 &&& (2147483647 : Int32))).toInt64) + (1 : Int64))).toInt32))) (FP.f2d (FP.i2f (maxF (1 : Int32) (p0 &&& (2147483647 : Int32)))))))), .val (.int (1 : Int32)), .unset] [(.int (1 : Int32))])) t
        refine XS.istore X0_4.here hx rfl (hb hby at_108) rfl (l' := #[.val (.int p0), .val (.int p1), .val (.int p2), .val (.ref b0_1), .val (.int (maxF (1 : Int32) (p0 &&& (2147483647 : Int32)))), .val (.long (((maxF (1 : Int32) (p0 &&& (2147483647 : Int32))).toInt64) + (1 : Int64))), .second, .val (.int ((own_lrem ((p1.toInt64) &&& (4294967295 : Int64)) (((maxF (1 : Int32) (p0 &&& (2147483647 : Int32))).toInt64) + (1 : Int64))).toInt32)), .val (.float (FP.fdiv (FP.i2f ((own_lrem ((p1.toInt64) &&& (4294967295 : Int64)) (((maxF (1 : Int32) (p0 &&& (2147483647 : Int32))).toInt64) + (1 : Int64))).toInt32)) (FP.i2f (maxF (1 : Int32) (p0 &&& (2147483647 : Int32)))))), .val (.float (FP.d2f (FP.ddiv (FP.f2d (FP.i2f ((own_lrem ((p1.toInt64) &&& (4294967295 : Int64)) (((maxF (1 : Int32) (p0 &&& (2147483647 : Int32))).toInt64) + (1 : Int64))).toInt32))) (FP.f2d (FP.i2f (maxF (1 : Int32) (p0 &&& (2147483647 : Int32)))))))), .val (.int (1 : Int32)), .val (.int (1 : Int32))]) rfl ?_
        show Steps p.tables e below (T0_4.setTop (mkF m 110 #[.val (.int p0), .val (.int p1), .val (.int p2), .val (.ref b0_1), .val (.int (maxF (1 : Int32) (p0 &&& (2147483647 : Int32)))), .val (.long (((maxF (1 : Int32) (p0 &&& (2147483647 : Int32))).toInt64) + (1 : Int64))), .second, .val (.int ((own_lrem ((p1.toInt64) &&& (4294967295 : Int64)) (((maxF (1 : Int32) (p0 &&& (2147483647 : Int32))).toInt64) + (1 : Int64))).toInt32)), .val (.float (FP.fdiv (FP.i2f ((own_lrem ((p1.toInt64) &&& (4294967295 : Int64)) (((maxF (1 : Int32) (p0 &&& (2147483647 : Int32))).toInt64) + (1 : Int64))).toInt32)) (FP.i2f (maxF (1 : Int32) (p0 &&& (2147483647 : Int32)))))), .val (.float (FP.d2f (FP.ddiv (FP.f2d (FP.i2f ((own_lrem ((p1.toInt64) &&& (4294967295 : Int64)) (((maxF (1 : Int32) (p0 &&& (2147483647 : Int32))).toInt64) + (1 : Int64))).toInt32))) (FP.f2d (FP.i2f (maxF (1 : Int32) (p0 &&& (2147483647 : Int32)))))))), .val (.int (1 : Int32)), .val (.int (1 : Int32))] [])) t
        refine XS.fload X0_4.here hx rfl (hb hby at_110) rfl ?_
        show Steps p.tables e below (T0_4.setTop (mkF m 112 #[.val (.int p0), .val (.int p1), .val (.int p2), .val (.ref b0_1), .val (.int (maxF (1 : Int32) (p0 &&& (2147483647 : Int32)))), .val (.long (((maxF (1 : Int32) (p0 &&& (2147483647 : Int32))).toInt64) + (1 : Int64))), .second, .val (.int ((own_lrem ((p1.toInt64) &&& (4294967295 : Int64)) (((maxF (1 : Int32) (p0 &&& (2147483647 : Int32))).toInt64) + (1 : Int64))).toInt32)), .val (.float (FP.fdiv (FP.i2f ((own_lrem ((p1.toInt64) &&& (4294967295 : Int64)) (((maxF (1 : Int32) (p0 &&& (2147483647 : Int32))).toInt64) + (1 : Int64))).toInt32)) (FP.i2f (maxF (1 : Int32) (p0 &&& (2147483647 : Int32)))))), .val (.float (FP.d2f (FP.ddiv (FP.f2d (FP.i2f ((own_lrem ((p1.toInt64) &&& (4294967295 : Int64)) (((maxF (1 : Int32) (p0 &&& (2147483647 : Int32))).toInt64) + (1 : Int64))).toInt32))) (FP.f2d (FP.i2f (maxF (1 : Int32) (p0 &&& (2147483647 : Int32)))))))), .val (.int (1 : Int32)), .val (.int (1 : Int32))] [(.float (FP.fdiv (FP.i2f ((own_lrem ((p1.toInt64) &&& (4294967295 : Int64)) (((maxF (1 : Int32) (p0 &&& (2147483647 : Int32))).toInt64) + (1 : Int64))).toInt32)) (FP.i2f (maxF (1 : Int32) (p0 &&& (2147483647 : Int32))))))])) t
        refine XS.fload X0_4.here hx rfl (hb hby at_112) rfl ?_
        show Steps p.tables e below (T0_4.setTop (mkF m 114 #[.val (.int p0), .val (.int p1), .val (.int p2), .val (.ref b0_1), .val (.int (maxF (1 : Int32) (p0 &&& (2147483647 : Int32)))), .val (.long (((maxF (1 : Int32) (p0 &&& (2147483647 : Int32))).toInt64) + (1 : Int64))), .second, .val (.int ((own_lrem ((p1.toInt64) &&& (4294967295 : Int64)) (((maxF (1 : Int32) (p0 &&& (2147483647 : Int32))).toInt64) + (1 : Int64))).toInt32)), .val (.float (FP.fdiv (FP.i2f ((own_lrem ((p1.toInt64) &&& (4294967295 : Int64)) (((maxF (1 : Int32) (p0 &&& (2147483647 : Int32))).toInt64) + (1 : Int64))).toInt32)) (FP.i2f (maxF (1 : Int32) (p0 &&& (2147483647 : Int32)))))), .val (.float (FP.d2f (FP.ddiv (FP.f2d (FP.i2f ((own_lrem ((p1.toInt64) &&& (4294967295 : Int64)) (((maxF (1 : Int32) (p0 &&& (2147483647 : Int32))).toInt64) + (1 : Int64))).toInt32))) (FP.f2d (FP.i2f (maxF (1 : Int32) (p0 &&& (2147483647 : Int32)))))))), .val (.int (1 : Int32)), .val (.int (1 : Int32))] [(.float (FP.d2f (FP.ddiv (FP.f2d (FP.i2f ((own_lrem ((p1.toInt64) &&& (4294967295 : Int64)) (((maxF (1 : Int32) (p0 &&& (2147483647 : Int32))).toInt64) + (1 : Int64))).toInt32))) (FP.f2d (FP.i2f (maxF (1 : Int32) (p0 &&& (2147483647 : Int32)))))))), (.float (FP.fdiv (FP.i2f ((own_lrem ((p1.toInt64) &&& (4294967295 : Int64)) (((maxF (1 : Int32) (p0 &&& (2147483647 : Int32))).toInt64) + (1 : Int64))).toInt32)) (FP.i2f (maxF (1 : Int32) (p0 &&& (2147483647 : Int32))))))])) t
        refine XS.fcmpS X0_4.here hx rfl (hb hby at_114) rfl rfl ?_
        show Steps p.tables e below (T0_4.setTop (mkF m 115 #[.val (.int p0), .val (.int p1), .val (.int p2), .val (.ref b0_1), .val (.int (maxF (1 : Int32) (p0 &&& (2147483647 : Int32)))), .val (.long (((maxF (1 : Int32) (p0 &&& (2147483647 : Int32))).toInt64) + (1 : Int64))), .second, .val (.int ((own_lrem ((p1.toInt64) &&& (4294967295 : Int64)) (((maxF (1 : Int32) (p0 &&& (2147483647 : Int32))).toInt64) + (1 : Int64))).toInt32)), .val (.float (FP.fdiv (FP.i2f ((own_lrem ((p1.toInt64) &&& (4294967295 : Int64)) (((maxF (1 : Int32) (p0 &&& (2147483647 : Int32))).toInt64) + (1 : Int64))).toInt32)) (FP.i2f (maxF (1 : Int32) (p0 &&& (2147483647 : Int32)))))), .val (.float (FP.d2f (FP.ddiv (FP.f2d (FP.i2f ((own_lrem ((p1.toInt64) &&& (4294967295 : Int64)) (((maxF (1 : Int32) (p0 &&& (2147483647 : Int32))).toInt64) + (1 : Int64))).toInt32))) (FP.f2d (FP.i2f (maxF (1 : Int32) (p0 &&& (2147483647 : Int32)))))))), .val (.int (1 : Int32)), .val (.int (1 : Int32))] [(.int (cmpValue (FP.fcmp (FP.fdiv (FP.i2f ((own_lrem ((p1.toInt64) &&& (4294967295 : Int64)) (((maxF (1 : Int32) (p0 &&& (2147483647 : Int32))).toInt64) + (1 : Int64))).toInt32)) (FP.i2f (maxF (1 : Int32) (p0 &&& (2147483647 : Int32))))) (FP.d2f (FP.ddiv (FP.f2d (FP.i2f ((own_lrem ((p1.toInt64) &&& (4294967295 : Int64)) (((maxF (1 : Int32) (p0 &&& (2147483647 : Int32))).toInt64) + (1 : Int64))).toInt32))) (FP.f2d (FP.i2f (maxF (1 : Int32) (p0 &&& (2147483647 : Int32)))))))) .l))])) t
        refine XS.ifNo X0_4.here hx rfl (hb hby at_115) rfl ((if0 _ _).trans (teq (fcmpV_eq (own_co p0 p1).2.2.2.2.2.1 (own_co p0 p1).1 .l)).2) ?_
        show Steps p.tables e below (T0_4.setTop (mkF m 118 #[.val (.int p0), .val (.int p1), .val (.int p2), .val (.ref b0_1), .val (.int (maxF (1 : Int32) (p0 &&& (2147483647 : Int32)))), .val (.long (((maxF (1 : Int32) (p0 &&& (2147483647 : Int32))).toInt64) + (1 : Int64))), .second, .val (.int ((own_lrem ((p1.toInt64) &&& (4294967295 : Int64)) (((maxF (1 : Int32) (p0 &&& (2147483647 : Int32))).toInt64) + (1 : Int64))).toInt32)), .val (.float (FP.fdiv (FP.i2f ((own_lrem ((p1.toInt64) &&& (4294967295 : Int64)) (((maxF (1 : Int32) (p0 &&& (2147483647 : Int32))).toInt64) + (1 : Int64))).toInt32)) (FP.i2f (maxF (1 : Int32) (p0 &&& (2147483647 : Int32)))))), .val (.float (FP.d2f (FP.ddiv (FP.f2d (FP.i2f ((own_lrem ((p1.toInt64) &&& (4294967295 : Int64)) (((maxF (1 : Int32) (p0 &&& (2147483647 : Int32))).toInt64) + (1 : Int64))).toInt32))) (FP.f2d (FP.i2f (maxF (1 : Int32) (p0 &&& (2147483647 : Int32)))))))), .val (.int (1 : Int32)), .val (.int (1 : Int32))] [])) t
        refine XS.fconst0 X0_4.here hx rfl (hb hby at_118) rfl ?_
        show Steps p.tables e below (T0_4.setTop (mkF m 119 #[.val (.int p0), .val (.int p1), .val (.int p2), .val (.ref b0_1), .val (.int (maxF (1 : Int32) (p0 &&& (2147483647 : Int32)))), .val (.long (((maxF (1 : Int32) (p0 &&& (2147483647 : Int32))).toInt64) + (1 : Int64))), .second, .val (.int ((own_lrem ((p1.toInt64) &&& (4294967295 : Int64)) (((maxF (1 : Int32) (p0 &&& (2147483647 : Int32))).toInt64) + (1 : Int64))).toInt32)), .val (.float (FP.fdiv (FP.i2f ((own_lrem ((p1.toInt64) &&& (4294967295 : Int64)) (((maxF (1 : Int32) (p0 &&& (2147483647 : Int32))).toInt64) + (1 : Int64))).toInt32)) (FP.i2f (maxF (1 : Int32) (p0 &&& (2147483647 : Int32)))))), .val (.float (FP.d2f (FP.ddiv (FP.f2d (FP.i2f ((own_lrem ((p1.toInt64) &&& (4294967295 : Int64)) (((maxF (1 : Int32) (p0 &&& (2147483647 : Int32))).toInt64) + (1 : Int64))).toInt32))) (FP.f2d (FP.i2f (maxF (1 : Int32) (p0 &&& (2147483647 : Int32)))))))), .val (.int (1 : Int32)), .val (.int (1 : Int32))] [(.float FP.fconst0)])) t
        refine XS.fload X0_4.here hx rfl (hb hby at_119) rfl ?_
        show Steps p.tables e below (T0_4.setTop (mkF m 121 #[.val (.int p0), .val (.int p1), .val (.int p2), .val (.ref b0_1), .val (.int (maxF (1 : Int32) (p0 &&& (2147483647 : Int32)))), .val (.long (((maxF (1 : Int32) (p0 &&& (2147483647 : Int32))).toInt64) + (1 : Int64))), .second, .val (.int ((own_lrem ((p1.toInt64) &&& (4294967295 : Int64)) (((maxF (1 : Int32) (p0 &&& (2147483647 : Int32))).toInt64) + (1 : Int64))).toInt32)), .val (.float (FP.fdiv (FP.i2f ((own_lrem ((p1.toInt64) &&& (4294967295 : Int64)) (((maxF (1 : Int32) (p0 &&& (2147483647 : Int32))).toInt64) + (1 : Int64))).toInt32)) (FP.i2f (maxF (1 : Int32) (p0 &&& (2147483647 : Int32)))))), .val (.float (FP.d2f (FP.ddiv (FP.f2d (FP.i2f ((own_lrem ((p1.toInt64) &&& (4294967295 : Int64)) (((maxF (1 : Int32) (p0 &&& (2147483647 : Int32))).toInt64) + (1 : Int64))).toInt32))) (FP.f2d (FP.i2f (maxF (1 : Int32) (p0 &&& (2147483647 : Int32)))))))), .val (.int (1 : Int32)), .val (.int (1 : Int32))] [(.float (FP.fdiv (FP.i2f ((own_lrem ((p1.toInt64) &&& (4294967295 : Int64)) (((maxF (1 : Int32) (p0 &&& (2147483647 : Int32))).toInt64) + (1 : Int64))).toInt32)) (FP.i2f (maxF (1 : Int32) (p0 &&& (2147483647 : Int32)))))), (.float FP.fconst0)])) t
        refine XS.fcmpS X0_4.here hx rfl (hb hby at_121) rfl rfl ?_
        show Steps p.tables e below (T0_4.setTop (mkF m 122 #[.val (.int p0), .val (.int p1), .val (.int p2), .val (.ref b0_1), .val (.int (maxF (1 : Int32) (p0 &&& (2147483647 : Int32)))), .val (.long (((maxF (1 : Int32) (p0 &&& (2147483647 : Int32))).toInt64) + (1 : Int64))), .second, .val (.int ((own_lrem ((p1.toInt64) &&& (4294967295 : Int64)) (((maxF (1 : Int32) (p0 &&& (2147483647 : Int32))).toInt64) + (1 : Int64))).toInt32)), .val (.float (FP.fdiv (FP.i2f ((own_lrem ((p1.toInt64) &&& (4294967295 : Int64)) (((maxF (1 : Int32) (p0 &&& (2147483647 : Int32))).toInt64) + (1 : Int64))).toInt32)) (FP.i2f (maxF (1 : Int32) (p0 &&& (2147483647 : Int32)))))), .val (.float (FP.d2f (FP.ddiv (FP.f2d (FP.i2f ((own_lrem ((p1.toInt64) &&& (4294967295 : Int64)) (((maxF (1 : Int32) (p0 &&& (2147483647 : Int32))).toInt64) + (1 : Int64))).toInt32))) (FP.f2d (FP.i2f (maxF (1 : Int32) (p0 &&& (2147483647 : Int32)))))))), .val (.int (1 : Int32)), .val (.int (1 : Int32))] [(.int (cmpValue (FP.fcmp FP.fconst0 (FP.fdiv (FP.i2f ((own_lrem ((p1.toInt64) &&& (4294967295 : Int64)) (((maxF (1 : Int32) (p0 &&& (2147483647 : Int32))).toInt64) + (1 : Int64))).toInt32)) (FP.i2f (maxF (1 : Int32) (p0 &&& (2147483647 : Int32)))))) .g))])) t
        refine XS.ifNo X0_4.here hx rfl (hb hby at_122) rfl ((if0 _ _).trans (flt (own_ge0 (own_co p0 p1).2.2.2.2.2.2.2.2.1.choose_spec.choose_spec)).2.2.1) ?_
        show Steps p.tables e below (T0_4.setTop (mkF m 125 #[.val (.int p0), .val (.int p1), .val (.int p2), .val (.ref b0_1), .val (.int (maxF (1 : Int32) (p0 &&& (2147483647 : Int32)))), .val (.long (((maxF (1 : Int32) (p0 &&& (2147483647 : Int32))).toInt64) + (1 : Int64))), .second, .val (.int ((own_lrem ((p1.toInt64) &&& (4294967295 : Int64)) (((maxF (1 : Int32) (p0 &&& (2147483647 : Int32))).toInt64) + (1 : Int64))).toInt32)), .val (.float (FP.fdiv (FP.i2f ((own_lrem ((p1.toInt64) &&& (4294967295 : Int64)) (((maxF (1 : Int32) (p0 &&& (2147483647 : Int32))).toInt64) + (1 : Int64))).toInt32)) (FP.i2f (maxF (1 : Int32) (p0 &&& (2147483647 : Int32)))))), .val (.float (FP.d2f (FP.ddiv (FP.f2d (FP.i2f ((own_lrem ((p1.toInt64) &&& (4294967295 : Int64)) (((maxF (1 : Int32) (p0 &&& (2147483647 : Int32))).toInt64) + (1 : Int64))).toInt32))) (FP.f2d (FP.i2f (maxF (1 : Int32) (p0 &&& (2147483647 : Int32)))))))), .val (.int (1 : Int32)), .val (.int (1 : Int32))] [])) t
        refine XS.fload X0_4.here hx rfl (hb hby at_125) rfl ?_
        show Steps p.tables e below (T0_4.setTop (mkF m 127 #[.val (.int p0), .val (.int p1), .val (.int p2), .val (.ref b0_1), .val (.int (maxF (1 : Int32) (p0 &&& (2147483647 : Int32)))), .val (.long (((maxF (1 : Int32) (p0 &&& (2147483647 : Int32))).toInt64) + (1 : Int64))), .second, .val (.int ((own_lrem ((p1.toInt64) &&& (4294967295 : Int64)) (((maxF (1 : Int32) (p0 &&& (2147483647 : Int32))).toInt64) + (1 : Int64))).toInt32)), .val (.float (FP.fdiv (FP.i2f ((own_lrem ((p1.toInt64) &&& (4294967295 : Int64)) (((maxF (1 : Int32) (p0 &&& (2147483647 : Int32))).toInt64) + (1 : Int64))).toInt32)) (FP.i2f (maxF (1 : Int32) (p0 &&& (2147483647 : Int32)))))), .val (.float (FP.d2f (FP.ddiv (FP.f2d (FP.i2f ((own_lrem ((p1.toInt64) &&& (4294967295 : Int64)) (((maxF (1 : Int32) (p0 &&& (2147483647 : Int32))).toInt64) + (1 : Int64))).toInt32))) (FP.f2d (FP.i2f (maxF (1 : Int32) (p0 &&& (2147483647 : Int32)))))))), .val (.int (1 : Int32)), .val (.int (1 : Int32))] [(.float (FP.fdiv (FP.i2f ((own_lrem ((p1.toInt64) &&& (4294967295 : Int64)) (((maxF (1 : Int32) (p0 &&& (2147483647 : Int32))).toInt64) + (1 : Int64))).toInt32)) (FP.i2f (maxF (1 : Int32) (p0 &&& (2147483647 : Int32))))))])) t
        refine XS.fconst1 X0_4.here hx rfl (hb hby at_127) rfl ?_
        show Steps p.tables e below (T0_4.setTop (mkF m 128 #[.val (.int p0), .val (.int p1), .val (.int p2), .val (.ref b0_1), .val (.int (maxF (1 : Int32) (p0 &&& (2147483647 : Int32)))), .val (.long (((maxF (1 : Int32) (p0 &&& (2147483647 : Int32))).toInt64) + (1 : Int64))), .second, .val (.int ((own_lrem ((p1.toInt64) &&& (4294967295 : Int64)) (((maxF (1 : Int32) (p0 &&& (2147483647 : Int32))).toInt64) + (1 : Int64))).toInt32)), .val (.float (FP.fdiv (FP.i2f ((own_lrem ((p1.toInt64) &&& (4294967295 : Int64)) (((maxF (1 : Int32) (p0 &&& (2147483647 : Int32))).toInt64) + (1 : Int64))).toInt32)) (FP.i2f (maxF (1 : Int32) (p0 &&& (2147483647 : Int32)))))), .val (.float (FP.d2f (FP.ddiv (FP.f2d (FP.i2f ((own_lrem ((p1.toInt64) &&& (4294967295 : Int64)) (((maxF (1 : Int32) (p0 &&& (2147483647 : Int32))).toInt64) + (1 : Int64))).toInt32))) (FP.f2d (FP.i2f (maxF (1 : Int32) (p0 &&& (2147483647 : Int32)))))))), .val (.int (1 : Int32)), .val (.int (1 : Int32))] [(.float FP.fconst1), (.float (FP.fdiv (FP.i2f ((own_lrem ((p1.toInt64) &&& (4294967295 : Int64)) (((maxF (1 : Int32) (p0 &&& (2147483647 : Int32))).toInt64) + (1 : Int64))).toInt32)) (FP.i2f (maxF (1 : Int32) (p0 &&& (2147483647 : Int32))))))])) t
        refine XS.fcmpS X0_4.here hx rfl (hb hby at_128) rfl rfl ?_
        show Steps p.tables e below (T0_4.setTop (mkF m 129 #[.val (.int p0), .val (.int p1), .val (.int p2), .val (.ref b0_1), .val (.int (maxF (1 : Int32) (p0 &&& (2147483647 : Int32)))), .val (.long (((maxF (1 : Int32) (p0 &&& (2147483647 : Int32))).toInt64) + (1 : Int64))), .second, .val (.int ((own_lrem ((p1.toInt64) &&& (4294967295 : Int64)) (((maxF (1 : Int32) (p0 &&& (2147483647 : Int32))).toInt64) + (1 : Int64))).toInt32)), .val (.float (FP.fdiv (FP.i2f ((own_lrem ((p1.toInt64) &&& (4294967295 : Int64)) (((maxF (1 : Int32) (p0 &&& (2147483647 : Int32))).toInt64) + (1 : Int64))).toInt32)) (FP.i2f (maxF (1 : Int32) (p0 &&& (2147483647 : Int32)))))), .val (.float (FP.d2f (FP.ddiv (FP.f2d (FP.i2f ((own_lrem ((p1.toInt64) &&& (4294967295 : Int64)) (((maxF (1 : Int32) (p0 &&& (2147483647 : Int32))).toInt64) + (1 : Int64))).toInt32))) (FP.f2d (FP.i2f (maxF (1 : Int32) (p0 &&& (2147483647 : Int32)))))))), .val (.int (1 : Int32)), .val (.int (1 : Int32))] [(.int (cmpValue (FP.fcmp (FP.fdiv (FP.i2f ((own_lrem ((p1.toInt64) &&& (4294967295 : Int64)) (((maxF (1 : Int32) (p0 &&& (2147483647 : Int32))).toInt64) + (1 : Int64))).toInt32)) (FP.i2f (maxF (1 : Int32) (p0 &&& (2147483647 : Int32))))) FP.fconst1) .g))])) t
        refine XS.ifNo X0_4.here hx rfl (hb hby at_129) rfl ((if0 _ _).trans (flt (own_le1 (own_co p0 p1).2.2.2.2.2.2.2.2.1.choose_spec.choose_spec (own_co p0 p1).2.2.2.2.2.2.2.2.2)).2.2.1) ?_
        show Steps p.tables e below (T0_4.setTop (mkF m 132 #[.val (.int p0), .val (.int p1), .val (.int p2), .val (.ref b0_1), .val (.int (maxF (1 : Int32) (p0 &&& (2147483647 : Int32)))), .val (.long (((maxF (1 : Int32) (p0 &&& (2147483647 : Int32))).toInt64) + (1 : Int64))), .second, .val (.int ((own_lrem ((p1.toInt64) &&& (4294967295 : Int64)) (((maxF (1 : Int32) (p0 &&& (2147483647 : Int32))).toInt64) + (1 : Int64))).toInt32)), .val (.float (FP.fdiv (FP.i2f ((own_lrem ((p1.toInt64) &&& (4294967295 : Int64)) (((maxF (1 : Int32) (p0 &&& (2147483647 : Int32))).toInt64) + (1 : Int64))).toInt32)) (FP.i2f (maxF (1 : Int32) (p0 &&& (2147483647 : Int32)))))), .val (.float (FP.d2f (FP.ddiv (FP.f2d (FP.i2f ((own_lrem ((p1.toInt64) &&& (4294967295 : Int64)) (((maxF (1 : Int32) (p0 &&& (2147483647 : Int32))).toInt64) + (1 : Int64))).toInt32))) (FP.f2d (FP.i2f (maxF (1 : Int32) (p0 &&& (2147483647 : Int32)))))))), .val (.int (1 : Int32)), .val (.int (1 : Int32))] [])) t
        refine XS.iload X0_4.here hx rfl (hb hby at_132) rfl ?_
        show Steps p.tables e below (T0_4.setTop (mkF m 134 #[.val (.int p0), .val (.int p1), .val (.int p2), .val (.ref b0_1), .val (.int (maxF (1 : Int32) (p0 &&& (2147483647 : Int32)))), .val (.long (((maxF (1 : Int32) (p0 &&& (2147483647 : Int32))).toInt64) + (1 : Int64))), .second, .val (.int ((own_lrem ((p1.toInt64) &&& (4294967295 : Int64)) (((maxF (1 : Int32) (p0 &&& (2147483647 : Int32))).toInt64) + (1 : Int64))).toInt32)), .val (.float (FP.fdiv (FP.i2f ((own_lrem ((p1.toInt64) &&& (4294967295 : Int64)) (((maxF (1 : Int32) (p0 &&& (2147483647 : Int32))).toInt64) + (1 : Int64))).toInt32)) (FP.i2f (maxF (1 : Int32) (p0 &&& (2147483647 : Int32)))))), .val (.float (FP.d2f (FP.ddiv (FP.f2d (FP.i2f ((own_lrem ((p1.toInt64) &&& (4294967295 : Int64)) (((maxF (1 : Int32) (p0 &&& (2147483647 : Int32))).toInt64) + (1 : Int64))).toInt32))) (FP.f2d (FP.i2f (maxF (1 : Int32) (p0 &&& (2147483647 : Int32)))))))), .val (.int (1 : Int32)), .val (.int (1 : Int32))] [(.int (1 : Int32))])) t
        refine XS.ifNo X0_4.here hx rfl (hb hby at_134) rfl ((if0 _ _).trans (feq (by decide : ¬ ((1 : Int32) = (0 : Int32)))).1) ?_
        show Steps p.tables e below (T0_4.setTop (mkF m 137 #[.val (.int p0), .val (.int p1), .val (.int p2), .val (.ref b0_1), .val (.int (maxF (1 : Int32) (p0 &&& (2147483647 : Int32)))), .val (.long (((maxF (1 : Int32) (p0 &&& (2147483647 : Int32))).toInt64) + (1 : Int64))), .second, .val (.int ((own_lrem ((p1.toInt64) &&& (4294967295 : Int64)) (((maxF (1 : Int32) (p0 &&& (2147483647 : Int32))).toInt64) + (1 : Int64))).toInt32)), .val (.float (FP.fdiv (FP.i2f ((own_lrem ((p1.toInt64) &&& (4294967295 : Int64)) (((maxF (1 : Int32) (p0 &&& (2147483647 : Int32))).toInt64) + (1 : Int64))).toInt32)) (FP.i2f (maxF (1 : Int32) (p0 &&& (2147483647 : Int32)))))), .val (.float (FP.d2f (FP.ddiv (FP.f2d (FP.i2f ((own_lrem ((p1.toInt64) &&& (4294967295 : Int64)) (((maxF (1 : Int32) (p0 &&& (2147483647 : Int32))).toInt64) + (1 : Int64))).toInt32))) (FP.f2d (FP.i2f (maxF (1 : Int32) (p0 &&& (2147483647 : Int32)))))))), .val (.int (1 : Int32)), .val (.int (1 : Int32))] [])) t
        refine XS.iload X0_4.here hx rfl (hb hby at_137) rfl ?_
        show Steps p.tables e below (T0_4.setTop (mkF m 139 #[.val (.int p0), .val (.int p1), .val (.int p2), .val (.ref b0_1), .val (.int (maxF (1 : Int32) (p0 &&& (2147483647 : Int32)))), .val (.long (((maxF (1 : Int32) (p0 &&& (2147483647 : Int32))).toInt64) + (1 : Int64))), .second, .val (.int ((own_lrem ((p1.toInt64) &&& (4294967295 : Int64)) (((maxF (1 : Int32) (p0 &&& (2147483647 : Int32))).toInt64) + (1 : Int64))).toInt32)), .val (.float (FP.fdiv (FP.i2f ((own_lrem ((p1.toInt64) &&& (4294967295 : Int64)) (((maxF (1 : Int32) (p0 &&& (2147483647 : Int32))).toInt64) + (1 : Int64))).toInt32)) (FP.i2f (maxF (1 : Int32) (p0 &&& (2147483647 : Int32)))))), .val (.float (FP.d2f (FP.ddiv (FP.f2d (FP.i2f ((own_lrem ((p1.toInt64) &&& (4294967295 : Int64)) (((maxF (1 : Int32) (p0 &&& (2147483647 : Int32))).toInt64) + (1 : Int64))).toInt32))) (FP.f2d (FP.i2f (maxF (1 : Int32) (p0 &&& (2147483647 : Int32)))))))), .val (.int (1 : Int32)), .val (.int (1 : Int32))] [(.int (1 : Int32))])) t
        refine XS.ifNo X0_4.here hx rfl (hb hby at_139) rfl ((if0 _ _).trans (feq (by decide : ¬ ((1 : Int32) = (0 : Int32)))).1) ?_
        show Steps p.tables e below (T0_4.setTop (mkF m 142 #[.val (.int p0), .val (.int p1), .val (.int p2), .val (.ref b0_1), .val (.int (maxF (1 : Int32) (p0 &&& (2147483647 : Int32)))), .val (.long (((maxF (1 : Int32) (p0 &&& (2147483647 : Int32))).toInt64) + (1 : Int64))), .second, .val (.int ((own_lrem ((p1.toInt64) &&& (4294967295 : Int64)) (((maxF (1 : Int32) (p0 &&& (2147483647 : Int32))).toInt64) + (1 : Int64))).toInt32)), .val (.float (FP.fdiv (FP.i2f ((own_lrem ((p1.toInt64) &&& (4294967295 : Int64)) (((maxF (1 : Int32) (p0 &&& (2147483647 : Int32))).toInt64) + (1 : Int64))).toInt32)) (FP.i2f (maxF (1 : Int32) (p0 &&& (2147483647 : Int32)))))), .val (.float (FP.d2f (FP.ddiv (FP.f2d (FP.i2f ((own_lrem ((p1.toInt64) &&& (4294967295 : Int64)) (((maxF (1 : Int32) (p0 &&& (2147483647 : Int32))).toInt64) + (1 : Int64))).toInt32))) (FP.f2d (FP.i2f (maxF (1 : Int32) (p0 &&& (2147483647 : Int32)))))))), .val (.int (1 : Int32)), .val (.int (1 : Int32))] [])) t
        refine XS.iconst X0_4.here hx rfl (hb hby at_142) ?_
        show Steps p.tables e below (T0_4.setTop (mkF m 143 #[.val (.int p0), .val (.int p1), .val (.int p2), .val (.ref b0_1), .val (.int (maxF (1 : Int32) (p0 &&& (2147483647 : Int32)))), .val (.long (((maxF (1 : Int32) (p0 &&& (2147483647 : Int32))).toInt64) + (1 : Int64))), .second, .val (.int ((own_lrem ((p1.toInt64) &&& (4294967295 : Int64)) (((maxF (1 : Int32) (p0 &&& (2147483647 : Int32))).toInt64) + (1 : Int64))).toInt32)), .val (.float (FP.fdiv (FP.i2f ((own_lrem ((p1.toInt64) &&& (4294967295 : Int64)) (((maxF (1 : Int32) (p0 &&& (2147483647 : Int32))).toInt64) + (1 : Int64))).toInt32)) (FP.i2f (maxF (1 : Int32) (p0 &&& (2147483647 : Int32)))))), .val (.float (FP.d2f (FP.ddiv (FP.f2d (FP.i2f ((own_lrem ((p1.toInt64) &&& (4294967295 : Int64)) (((maxF (1 : Int32) (p0 &&& (2147483647 : Int32))).toInt64) + (1 : Int64))).toInt32))) (FP.f2d (FP.i2f (maxF (1 : Int32) (p0 &&& (2147483647 : Int32)))))))), .val (.int (1 : Int32)), .val (.int (1 : Int32))] [(.int (1 : Int32))])) t
        refine XS.goto X0_4.here hx rfl (pc0 := 143) (pc' := 147) rfl (hb hby at_143) (by decide) (by decide) ?_
        exact k
      obtain ⟨fs, hr, hrun, hended, hW, hsame⟩ := X0_4.leave (v := some (.int (nar .boolean (1 : Int32)))) (fun h => by rw [Bd.returns] at h; cases h)
      refine ⟨_, _, retN X0_4 hx (t := .boolean) Bd.returns (by simp) (hb hby at_147) hr, hrun, hended, _, _, rfl, ?_, ⟨_, rfl⟩, hW, hsame.mono (by decide) (by decide)⟩
      have eh : (T0_4.setFrames fs).heap = T0_2.heap := e0_4
      rw [eh]
      exact ⟨rfl, N0_4⟩
set_option maxRecDepth 65536 in
set_option maxHeartbeats 40000000 in
theorem comes_1 {Post : Tables → Env → Array Value → State → Outcome → State → Prop} (hpost : ∀ tb e args s v u, (limb_1_1.after args s (.returned v) u = true ∧ limb_1_2.after args s (.returned v) u = true ∧ True) → FrameEnd s (.returned v) u (Jvm.fieldLocs frame_1_writes args s ++ Jvm.arrayLocs frame_1_arrays args s ++ Jvm.staticLocs frame_1_statics s) 16 128 → Post tb e args s (.returned v) u) :
    ArmFor flags0 classFile x code maxLocals ret World_1 tables_1 room_1 Calls_1 rest_1 Pre_1 Post := by
  intro l hfl _ _ p e ha hc hk s m args below hf hA hF happ hP
  obtain ⟨hcalls, hrest, hpre⟩ := hP
  obtain ⟨-, -, -, hnamed, -, -, -, hat⟩ := (Spec.applies_iff hf).mp happ
  obtain ⟨hg, hn⟩ := and_e (Cond.before_iff.mp (show (Jvm.Cond.and given_1 narrow_1).before args s = true from hpre))
  obtain ⟨g1, g2⟩ := and_e hg
  obtain ⟨ga0, gb0⟩ := and_e g2
  obtain ⟨ga1, gb1⟩ := and_e gb0
  obtain ⟨w0, w1, w2, rfl⟩ : ∃ w0 w1 w2 : Value, args = #[w0, w1, w2] := by
    have hs : args.size = 3 := by simpa [Cond.value, given_1] using g1
    obtain ⟨L⟩ := args
    match L, hs with
    | [w0, w1, w2], _ => exact ⟨w0, w1, w2, rfl⟩
  have hw := fun d (hd : d ∈ tables_1) => atoms_spec (ws := Jvm.Cond.code x code maxLocals ret :: tables_1) hat d (List.mem_cons_of_mem _ hd)
  have hfit : Fit s := fun {y c} hc i hi => by
    obtain ⟨ha, rfl⟩ := Array.getElem?_eq_some_iff.mp hc
    have q := List.all_eq_true.mp ((Array.all_eq_true_iff_forall_mem.mp hF) _ (Array.getElem_mem ha)) i (List.mem_range.mpr hi)
    simpa [Array.getElem?_eq_getElem hi] using q
  obtain ⟨i0, ei0⟩ := is_v ga0
  obtain rfl : w0 = (.int i0) := Option.some.inj ei0
  obtain ⟨i1, ei1⟩ := is_v ga1
  obtain rfl : w1 = (.int i1) := Option.some.inj ei1
  obtain ⟨i2, ei2⟩ := is_v gb1
  obtain rfl : w2 = (.int i2) := Option.some.inj ei2
  obtain ⟨n, o, h1, h2, h3, _, L, rfl, ⟨rfl, N⟩, hq⟩ := rm0 l s _ hw tables_1 i0 i1 i2  s.heap s.heap.size (Nat.le_refl _)  p e ha hc hk s m _ below hf ((Spec.applies_iff_loose hf).mp happ).1 ⟨rfl, State.Warmed39.refl s, rfl⟩ trivial
  refine ⟨n, _, h1, h2, h3, hpost _ _ _ _ _ _ ⟨Cond.after_iff.mpr rfl, Cond.after_iff.mpr (eq_i res_at (Term.int_eval (1)) rfl), trivial⟩ ⟨hq.1, hq.2.1, (hq.2.2.sift fun y hy => Or.inr (N y hy)).mono (by decide) (by decide)⟩⟩
theorem main_1_1 : Claimed_1_1 := comes_1 fun _ _ _ _ _ _ h hF => ⟨h.1, hF⟩
theorem main_1_2 : Claimed_1_2 := comes_1 fun _ _ _ _ _ _ h hF => ⟨h.2.1, hF⟩
end Jvm.Pilot.@@N@@
namespace Jvm.Pilot.@@N@@
open Jvm Jvm.ClassFile Sem Op Lib Jvm.Free Jvm.Stand Jvm.Pilot.@@N@@.Jvm.D
/-! MADE BY PROGRAM (witnessworld.py) out of the Statement's table words and the real class files: 11 classes; the members and pool entries that the words name. The judged class is class 1, her method 1. -/
namespace start1
open Jvm.ClassFile
def u (s : String) : CpInfo := .utf8 (stringToUtf16 s)
/-- a pool by its gaps: so many unusable entries, then the entry; so many at the end -/
def gap : Nat → List CpInfo → List CpInfo
  | 0, r => r
  | n + 1, r => .unusable :: gap n r
def poolList (es : List (Nat × CpInfo)) (last : Nat) : List CpInfo := es.foldr (fun e r => gap e.1 (e.2 :: r)) (gap last [])
def pool (es : List (Nat × CpInfo)) (last : Nat) : Array CpInfo := ⟨poolList es last⟩
def fileOf (pool : Array CpInfo) (this : Nat) (attrs : Array Attribute := #[]) (ms : Array MethodInfo := #[]) (fl : Nat := 33) (sup : Nat := 0) (ifs : Array Nat := #[]) (fds : Array FieldInfo := #[]) : ClassFile where
  minorVersion := 0
  majorVersion := 65
  constantPool := pool
  accessFlags := fl
  thisClass := this
  superClass := sup
  interfaces := ifs
  fields := fds
  methods := ms
  attributes := attrs
def plain (name : String) (sup : Option ClassId) : Class where
  name := name
  kind := .ordinary
  loader := none
  accessFlags := 33
  super := sup
  interfaces := #[]
  cf := none
  fields := #[]
  methods := #[]
  instanceTypes := #[]
  staticTypes := #[]
  resolved := #[]
  callSites := []
  init := .initialized
  statics := none
  mirror := none

def pool0 : Array CpInfo := pool [(5, u "<init>"), (0, u "()V"), (1, .class_ 10), (1, u "java/lang/Object")] 113

def k0c0 : Code := { maxStack := 0, maxLocals := 1, code := object_method_1_code, exceptionTable := #[], attributes := #[] }
def k0m0 : Method := { name := "<init>", desc := "()V", sig := { parameters := [], returnType := none }, accessFlags := 1, code := some k0c0 }
/-- java/lang/Object -/
def k0 : Class := { plain "java/lang/Object" none with
  accessFlags := 33
  interfaces := #[]
  cf := some (fileOf pool0 8 #[] #[{ accessFlags := 1, nameIndex := 5, descriptorIndex := 6, attributes := #[] }] 33 0 #[] #[])
  fields := #[]
  methods := #[k0m0]
  instanceTypes := #[]
  staticTypes := #[]
  resolved := Array.replicate 124 none
  statics := none }

def pool1 : Array CpInfo := pool [(2, .class_ 4), (1, u "java/lang/Object"), (0, u "<init>"), (0, u "()V"), (0, .class_ 8), (0, u "com/example/terms_to_scores/termstoscores/classic/ClassicModel"), (0, .methodref 7 10), (0, .nameAndType 5 11), (0, u "(Z)V"), (0, .integer 2147483647), (0, .methodref 14 15), (0, .class_ 16), (0, .nameAndType 17 18), (0, u "java/lang/Math"), (0, u "max"), (0, u "(II)I"), (0, .long 4294967295), (1, .methodref 7 22), (0, .nameAndType 23 24), (0, u "coord"), (0, u "(II)F"), (0, .class_ 26), (0, u "com/example/terms_to_scores/termstoscores/classic/ClassicModelCoordPinLaw"), (2, u "law"), (0, u "(III)Z")] 3

def k1m0 : Method := { name := "<init>", desc := "()V", sig := { parameters := [], returnType := none }, accessFlags := 1, code := none }
def k1c1 : Code := { maxStack := 4, maxLocals := 12, code := code, exceptionTable := #[], attributes := #[] }
def k1m1 : Method := { name := "law", desc := "(III)Z", sig := { parameters := [.int, .int, .int], returnType := some .boolean }, accessFlags := 9, code := some k1c1 }
/-- com/example/terms_to_scores/termstoscores/classic/ClassicModelCoordPinLaw -/
def k1 : Class := { plain "com/example/terms_to_scores/termstoscores/classic/ClassicModelCoordPinLaw" (some 0) with
  accessFlags := 49
  interfaces := #[]
  cf := some (fileOf pool1 25 #[] #[{ accessFlags := 1, nameIndex := 5, descriptorIndex := 6, attributes := #[] }, { accessFlags := 9, nameIndex := 29, descriptorIndex := 30, attributes := #[] }] 49 2 #[] #[])
  fields := #[]
  methods := #[k1m0, k1m1]
  instanceTypes := #[]
  staticTypes := #[]
  resolved := Array.replicate 34 none
  statics := none }

def pool2 : Array CpInfo := pool [(42, .class_ 43), (0, u "com/example/terms_to_scores/termstoscores/scoring/Model"), (0, .class_ 45), (0, u "java/lang/Object")] 33

/-- com/example/terms_to_scores/termstoscores/scoring/Model -/
def k2 : Class := { plain "com/example/terms_to_scores/termstoscores/scoring/Model" (some 0) with
  accessFlags := 1537
  interfaces := #[]
  cf := some (fileOf pool2 42 #[] #[] 1537 44 #[] #[])
  fields := #[]
  methods := #[]
  instanceTypes := #[]
  staticTypes := #[]
  resolved := Array.replicate 79 none
  statics := none }

def pool3 : Array CpInfo := pool [(2, .class_ 4), (1, u "com/example/terms_to_scores/termstoscores/classic/ClassicModel"), (0, u "<init>"), (0, u "(Z)V"), (0, .methodref 8 9), (0, .class_ 10), (0, .nameAndType 5 11), (0, u "java/lang/Object"), (0, u "()V"), (0, .fieldref 2 13), (0, .nameAndType 14 15), (0, u "discountOverlaps"), (0, u "Z"), (3, .class_ 21), (1, u "com/example/terms_to_scores/termstoscores/scoring/Model"), (21, .class_ 44), (0, u "com/example/terms_to_scores/termstoscores/classic/ClassicModel$Scorer"), (4, .class_ 50), (0, u "com/example/terms_to_scores/termstoscores/classic/ClassicModel$Weights"), (148, u "coord"), (0, u "(II)F")] 46

def k3m0 : Method := { name := "<init>", desc := "()V", sig := { parameters := [], returnType := none }, accessFlags := 1, code := none }
def k3c1 : Code := { maxStack := 2, maxLocals := 2, code := prog_10_method_2_code, exceptionTable := #[], attributes := #[] }
def k3m1 : Method := { name := "<init>", desc := "(Z)V", sig := { parameters := [.boolean], returnType := none }, accessFlags := 1, code := some k3c1 }
def k3c2 : Code := { maxStack := 4, maxLocals := 3, code := prog_10_method_13_code, exceptionTable := #[], attributes := #[] }
def k3m2 : Method := { name := "coord", desc := "(II)F", sig := { parameters := [.int, .int], returnType := some .float }, accessFlags := 17, code := some k3c2 }
/-- com/example/terms_to_scores/termstoscores/classic/ClassicModel -/
def k3 : Class := { plain "com/example/terms_to_scores/termstoscores/classic/ClassicModel" (some 0) with
  accessFlags := 33
  interfaces := #[2]
  cf := some (fileOf pool3 2 #[.nestMembers #[43, 49]] #[{ accessFlags := 1, nameIndex := 5, descriptorIndex := 11, attributes := #[] }, { accessFlags := 1, nameIndex := 5, descriptorIndex := 6, attributes := #[] }, { accessFlags := 17, nameIndex := 199, descriptorIndex := 200, attributes := #[] }] 33 8 #[19] #[{ accessFlags := 18, nameIndex := 14, descriptorIndex := 15, attributes := #[] }])
  fields := #[{ name := "discountOverlaps", type := .boolean, accessFlags := 18, slot := 0, constantValue := 0 }]
  methods := #[k3m0, k3m1, k3m2]
  instanceTypes := #[.boolean]
  staticTypes := #[]
  resolved := Array.replicate 247 none
  statics := none }

def pool4 : Array CpInfo := pool [(1, .class_ 2), (0, u "java/lang/Math"), (1, .class_ 6), (1, u "java/lang/Object"), (0, u "<init>"), (0, u "()V"), (89, .class_ 100), (1, u "java/lang/Math$RandomNumberGeneratorHolder"), (71, u "negativeZeroFloatBits"), (0, u "J"), (2, u "negativeZeroDoubleBits"), (21, u "max"), (46, u "$assertionsDisabled"), (0, u "Z"), (88, u "(II)I"), (2, u "twoToTheDoubleScaleDown"), (0, u "D"), (4, u "twoToTheDoubleScaleUp"), (9, u "E"), (3, u "PI"), (2, u "TAU"), (2, u "DEGREES_TO_RADIANS"), (0, u "RADIANS_TO_DEGREES")] 94

def k4m0 : Method := { name := "<init>", desc := "()V", sig := { parameters := [], returnType := none }, accessFlags := 2, code := none }
def k4c1 : Code := { maxStack := 2, maxLocals := 2, code := jdk_29_method_65_code, exceptionTable := #[], attributes := #[] }
def k4m1 : Method := { name := "max", desc := "(II)I", sig := { parameters := [.int, .int], returnType := some .int }, accessFlags := 9, code := some k4c1 }
/-- java/lang/Math -/
def k4 : Class := { plain "java/lang/Math" (some 0) with
  accessFlags := 49
  interfaces := #[]
  cf := some (fileOf pool4 1 #[.nestMembers #[98]] #[{ accessFlags := 2, nameIndex := 7, descriptorIndex := 8, attributes := #[] }, { accessFlags := 9, nameIndex := 198, descriptorIndex := 335, attributes := #[] }] 49 4 #[] #[{ accessFlags := 25, nameIndex := 354, descriptorIndex := 339, attributes := #[] }, { accessFlags := 25, nameIndex := 358, descriptorIndex := 339, attributes := #[] }, { accessFlags := 25, nameIndex := 361, descriptorIndex := 339, attributes := #[] }, { accessFlags := 26, nameIndex := 364, descriptorIndex := 339, attributes := #[] }, { accessFlags := 26, nameIndex := 365, descriptorIndex := 339, attributes := #[] }, { accessFlags := 26, nameIndex := 172, descriptorIndex := 173, attributes := #[] }, { accessFlags := 26, nameIndex := 176, descriptorIndex := 173, attributes := #[] }, { accessFlags := 8, nameIndex := 344, descriptorIndex := 339, attributes := #[] }, { accessFlags := 8, nameIndex := 338, descriptorIndex := 339, attributes := #[] }, { accessFlags := 4120, nameIndex := 245, descriptorIndex := 246, attributes := #[] }])
  fields := #[{ name := "E", type := .double, accessFlags := 25, slot := 0, constantValue := 0 }, { name := "PI", type := .double, accessFlags := 25, slot := 1, constantValue := 0 }, { name := "TAU", type := .double, accessFlags := 25, slot := 2, constantValue := 0 }, { name := "DEGREES_TO_RADIANS", type := .double, accessFlags := 26, slot := 3, constantValue := 0 }, { name := "RADIANS_TO_DEGREES", type := .double, accessFlags := 26, slot := 4, constantValue := 0 }, { name := "negativeZeroFloatBits", type := .long, accessFlags := 26, slot := 5, constantValue := 0 }, { name := "negativeZeroDoubleBits", type := .long, accessFlags := 26, slot := 6, constantValue := 0 }, { name := "twoToTheDoubleScaleUp", type := .double, accessFlags := 8, slot := 7, constantValue := 0 }, { name := "twoToTheDoubleScaleDown", type := .double, accessFlags := 8, slot := 8, constantValue := 0 }, { name := "$assertionsDisabled", type := .boolean, accessFlags := 4120, slot := 9, constantValue := 0 }]
  methods := #[k4m0, k4m1]
  instanceTypes := #[]
  staticTypes := #[.double, .double, .double, .double, .double, .long, .long, .double, .double, .boolean]
  resolved := Array.replicate 460 none
  statics := none }

def pool5 : Array CpInfo := pool [(1, u "java/lang/Cloneable"), (0, .class_ 1), (0, u "java/lang/Object"), (0, .class_ 3)] 3

/-- java/lang/Cloneable -/
def k5 : Class := { plain "java/lang/Cloneable" (some 0) with
  accessFlags := 1537
  interfaces := #[]
  cf := some (fileOf pool5 2 #[] #[] 1537 4 #[] #[])
  fields := #[]
  methods := #[]
  instanceTypes := #[]
  staticTypes := #[]
  resolved := Array.replicate 8 none
  statics := none }

def pool6 : Array CpInfo := pool [(1, u "java/io/Serializable"), (0, .class_ 1), (0, u "java/lang/Object"), (0, .class_ 3)] 3

/-- java/io/Serializable -/
def k6 : Class := { plain "java/io/Serializable" (some 0) with
  accessFlags := 1537
  interfaces := #[]
  cf := some (fileOf pool6 2 #[] #[] 1537 4 #[] #[])
  fields := #[]
  methods := #[]
  instanceTypes := #[]
  staticTypes := #[]
  resolved := Array.replicate 8 none
  statics := none }

/-- the primitive byte -/
def k7 : Class := { plain "byte" none with kind := .primitive 'B', accessFlags := 0x411 }
/-- [B -/
def k8 : Class := { plain "[B" (some 0) with kind := .array 7 .byte, interfaces := #[5, 6], accessFlags := 1041 }

/-- the primitive int -/
def k9 : Class := { plain "int" none with kind := .primitive 'I', accessFlags := 0x411 }
/-- [I -/
def k10 : Class := { plain "[I" (some 0) with kind := .array 9 .int, interfaces := #[5, 6], accessFlags := 1041 }

def heap : Heap := #[]
def classes : Array Class := #[k0, k1, k2, k3, k4, k5, k6, k7, k8, k9, k10]
def interned : List (Array UInt16 × Addr) := []
def slotsUsed : Nat := 0
def theMethod : MethodId := ⟨1, 1⟩
def args0 : Array Value := #[.int 5, .int 7, .int 1]
def aboutOver (below : List Frame) : State where
  vm := { classes := classes, interned := interned.toArray }
  heap := heap
  slotsUsed := slotsUsed
  threads := #[{ frames := .invoking theMethod args0 :: below }]
def below0 : List Frame := [.native { method := ⟨0, 0⟩, args := #[] }]
def about1 : State := aboutOver below0
def p0 : Program := .bare "" "" ""
def e0 : Env := launch0.env 0 0 0
theorem w_frames : about1.frames = Frame.invoking theMethod args0 :: below0 := rfl
set_option maxRecDepth 65536 in
theorem w_args : argsFit about1.vm theMethod args0 = true := by decide +kernel
set_option maxRecDepth 65536 in
theorem w_heap : heapFits about1 = true := by decide +kernel
set_option maxRecDepth 65536 in
theorem w_runnable : about1.curStatus? = some .runnable := by decide +kernel
set_option maxRecDepth 65536 in
theorem w_alone : about1.alone = true := by decide +kernel
set_option maxRecDepth 65536 in
theorem w_named : about1.methodNamed? x = some theMethod := by decide +kernel
set_option maxRecDepth 65536 in
theorem w_hears : about1.hears theMethod below0 = true := by decide +kernel
set_option maxRecDepth 65536 in
theorem w_ripe : about1.ripe theMethod args0 below0 = true := by decide +kernel
theorem w_running : about1.status = .running := rfl
set_option maxRecDepth 65536 in
theorem w_room : about1.hasRoom e0.platform room_1 = true :=
  launch0.hasRoom_least _ room_1 (by decide +kernel) (by decide +kernel) (by decide +kernel) (by decide +kernel) (by decide +kernel) (by decide +kernel)
theorem allAtoms_all (ts : List Jvm.Cond) (a : Array Jvm.Value) (st : Jvm.State) : (allAtoms ts).before a st = ts.all (fun c => c.before a st) := by
  induction ts with
  | nil => rfl
  | cons c t ih =>
    show (Jvm.Cond.and c (allAtoms t)).before a st = _
    rw [Jvm.Cond.before_and, ih, List.all_cons]
def words1 : List Jvm.Cond := Jvm.Cond.code x code maxLocals ret :: tables_1
/-- a 'code' word, met by the world's own term for the bytes: nothing is compared byte by byte -/
theorem code_word {y : MethodName} {bytes : ByteArray} {mx : Nat} {rt : Option FieldType} {a : Array Value} {s : State} {m : MethodId} {meth : Method} {c : Code} (h1 : s.methodNamed? y = some m) (h2 : s.vm.method? m = some meth) (h3 : meth.code = some c) (h4 : c.code = bytes)
    (h5 : (c.maxLocals == mx && c.exceptionTable.isEmpty && decide (c.maxStack ≤ mostOperands) && decide (meth.sig.returnType = rt) && !meth.locks && decide (parseMethodDescriptor y.desc = some meth.sig)) = true) : (Jvm.Cond.code y bytes mx rt).before a s = true := by
  simp only [Bool.and_eq_true, beq_iff_eq, Bool.not_eq_true', decide_eq_true_eq] at h5
  obtain ⟨⟨⟨⟨⟨g1, g2⟩, g3⟩, g4⟩, g5⟩, g6⟩ := h5
  simp [Cond.before, Cond.holds, Cond.value, h1, h2, h3, h4, g1, g2, g3, g4, g5, g6]
def isCode : Jvm.Cond → Bool
  | .code _ _ _ _ => true
  | _ => false
theorem all_split {L : List Jvm.Cond} {P : Jvm.Cond → Bool} (h1 : L.all (fun c => isCode c || P c) = true) (h2 : ∀ c ∈ L.filter isCode, P c = true) : L.all P = true := by
  refine List.all_eq_true.mpr fun c hc => ?_
  have h := List.all_eq_true.mp h1 c hc
  rcases Bool.eq_false_or_eq_true (isCode c) with hi | hi
  · exact h2 c (List.mem_filter.mpr ⟨hc, hi⟩)
  · simpa [hi] using h
set_option maxRecDepth 65536 in
theorem w_c0 : (Jvm.Cond.code x code maxLocals ret).before args0 about1 = true := code_word (m := ⟨1, 1⟩) (meth := k1m1) (c := k1c1) (by decide +kernel) rfl rfl rfl (by decide +kernel)
set_option maxRecDepth 65536 in
theorem w_c1 : (Jvm.Cond.code ({ cls := "com/example/terms_to_scores/termstoscores/classic/ClassicModel", name := "<init>", desc := "(Z)V" } : Jvm.MethodName) prog_10_method_2_code (2 : Nat) (Option.none : Option Jvm.ClassFile.FieldType)).before args0 about1 = true := code_word (m := ⟨3, 1⟩) (meth := k3m1) (c := k3c1) (by decide +kernel) rfl rfl rfl (by decide +kernel)
set_option maxRecDepth 65536 in
theorem w_c2 : (Jvm.Cond.code ({ cls := "java/lang/Object", name := "<init>", desc := "()V" } : Jvm.MethodName) object_method_1_code (1 : Nat) (Option.none : Option Jvm.ClassFile.FieldType)).before args0 about1 = true := code_word (m := ⟨0, 0⟩) (meth := k0m0) (c := k0c0) (by decide +kernel) rfl rfl rfl (by decide +kernel)
set_option maxRecDepth 65536 in
theorem w_c3 : (Jvm.Cond.code ({ cls := "java/lang/Math", name := "max", desc := "(II)I" } : Jvm.MethodName) jdk_29_method_65_code (2 : Nat) (Option.some Jvm.ClassFile.FieldType.int)).before args0 about1 = true := code_word (m := ⟨4, 1⟩) (meth := k4m1) (c := k4c1) (by decide +kernel) rfl rfl rfl (by decide +kernel)
set_option maxRecDepth 65536 in
theorem w_c4 : (Jvm.Cond.code ({ cls := "com/example/terms_to_scores/termstoscores/classic/ClassicModel", name := "coord", desc := "(II)F" } : Jvm.MethodName) prog_10_method_13_code (3 : Nat) (Option.some Jvm.ClassFile.FieldType.float)).before args0 about1 = true := code_word (m := ⟨3, 2⟩) (meth := k3m2) (c := k3c2) (by decide +kernel) rfl rfl rfl (by decide +kernel)
def codes1 : List Jvm.Cond := [Jvm.Cond.code x code maxLocals ret, Jvm.Cond.code ({ cls := "com/example/terms_to_scores/termstoscores/classic/ClassicModel", name := "<init>", desc := "(Z)V" } : Jvm.MethodName) prog_10_method_2_code (2 : Nat) (Option.none : Option Jvm.ClassFile.FieldType), Jvm.Cond.code ({ cls := "java/lang/Object", name := "<init>", desc := "()V" } : Jvm.MethodName) object_method_1_code (1 : Nat) (Option.none : Option Jvm.ClassFile.FieldType), Jvm.Cond.code ({ cls := "java/lang/Math", name := "max", desc := "(II)I" } : Jvm.MethodName) jdk_29_method_65_code (2 : Nat) (Option.some Jvm.ClassFile.FieldType.int), Jvm.Cond.code ({ cls := "com/example/terms_to_scores/termstoscores/classic/ClassicModel", name := "coord", desc := "(II)F" } : Jvm.MethodName) prog_10_method_13_code (3 : Nat) (Option.some Jvm.ClassFile.FieldType.float)]
set_option maxRecDepth 65536 in
theorem codes_eq : words1.filter isCode = codes1 := rfl
theorem w_codes : ∀ c ∈ words1.filter isCode, c.before args0 about1 = true := by
  rw [codes_eq]
  intro c hc
  simp only [codes1, List.mem_cons, List.not_mem_nil, or_false] at hc
  rcases hc with rfl | rfl | rfl | rfl | rfl
  · exact w_c0
  · exact w_c1
  · exact w_c2
  · exact w_c3
  · exact w_c4
set_option maxRecDepth 65536 in
theorem w_t1 : words1.all (fun c => isCode c || c.before args0 about1) = true := by decide +kernel
theorem w_tables : (allAtoms (Jvm.Cond.code x code maxLocals ret :: tables_1)).before args0 about1 = true := by
  rw [allAtoms_all]
  show words1.all (fun c => c.before args0 about1) = true
  refine all_split ?_ w_codes
  rw [w_t1]
set_option maxRecDepth 65536 in
theorem w_case : (Jvm.Cond.and given_1 narrow_1).before args0 about1 = true := by decide +kernel
theorem w_applies : (headSpec (Jvm.Cond.code x code maxLocals ret :: tables_1) room_1).applies x e0.platform about1 = true :=
  (Spec.applies_iff w_frames).mpr ⟨w_running, w_runnable, w_alone, w_named, w_hears, w_ripe, w_room, w_tables⟩
theorem atStart : AtStart classFile x code maxLocals ret World_1 tables_1 room_1 Calls_1 rest_1 Pre_1 launch0 p0 e0 about1 theMethod args0 below0 :=
  ⟨lists_1, trivial, launch0.admits_env _ _ _, launch0.least_env, fairChoices_fair.cas, fairChoices_fair.clock, w_frames, w_args, w_heap, w_applies, trivial, trivial, w_case⟩
end start1
theorem witness_1 : WitnessClaimed_1 := ⟨start1.p0, start1.e0, start1.about1, start1.theMethod, start1.args0, start1.below0, start1.atStart⟩
end Jvm.Pilot.@@N@@
