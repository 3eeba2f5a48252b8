import JvmDerived
import JvmDerived.Pilot.@@N@@Statement
import JvmDerived.Pilot.@@N@@Code
set_option linter.unusedVariables false
set_option linter.unusedSimpArgs false
namespace Jvm.RoadKit
open Sem ClassFile Op Lib Jvm.Stand Jvm.Free Jvm.LawKit
section Own
variable {p : Program} {l : Launch} {e : Env} {R : Room} {s : State} {m : MethodId} {args : Array Value} {below : List Frame} {meth : Method} {c : Code} {T : State} {locs : List Loc} {cells slots : Nat} {Q : Option Value → Heap → List Loc → Prop} {k n : Nat} {A B : State} {h : Heap}
/-- from the state A the run comes to its end, with what Q says -/
def Goes (p : Program) (e : Env) (below : List Frame) (s : State) (Q : Option Value → Heap → List Loc → Prop) (k n : Nat) (A : State) : Prop :=
  ∃ s₂ o, Steps p.tables e below A s₂ ∧ s₂.status = .running ∧ Ended s₂ below o ∧ ∃ v L, o = .returned v ∧ Q v s₂.heap L ∧ FrameEnd s o s₂ L k n
theorem Goes.step (q : ∀ t, Steps p.tables e below B t → Steps p.tables e below A t) (g : Goes p e below s Q k n B) : Goes p e below s Q k n A := by
  obtain ⟨s₂, o, h1, h2⟩ := g
  exact ⟨s₂, o, q _ h1, h2⟩
theorem Goes.via (q : Steps p.tables e below A B) (g : Goes p e below s Q k n B) : Goes p e below s Q k n A := by
  obtain ⟨s₂, o, h1, h2⟩ := g
  exact ⟨s₂, o, q.trans h1, h2⟩
theorem Goes.enter {g g' : JFrame} (q : g = g') (h : Goes p e below s Q k n (T.setTop g')) : Goes p e below s Q k n (T.setTop g) := q ▸ h
theorem Goes.out (X : Stand p l e R s m args below meth c T locs cells slots) (eT : T.heap = h) {v : Option Value} (hv : meth.sig.returnType = none → v = none) (hlk : meth.locks = false)
    (hs : ∀ fs, (∀ (f : JFrame) (acts : List Action), f.method = m → f.locked = none → f.entered = [] → (doReturn e (T.setTop f) acts v).1 = T.setFrames fs) → Steps p.tables e below A (T.setFrames fs)) (hk : cells ≤ k) (hn : slots ≤ n) (hQ : Q v h locs) : Goes p e below s Q k n A := by
  obtain ⟨fs, hr, hrun, hended, hW, hsame⟩ := X.leave (v := v) hv hlk
  exact ⟨_, _, hs fs hr, hrun, hended, _, _, rfl, (by show Q v T.heap locs; rw [eT]; exact hQ), ⟨_, rfl⟩, hW, hsame.mono hk hn⟩
theorem own_some {t : FieldType} {v : Option Value} (h : meth.sig.returnType = some t) : meth.sig.returnType = none → v = none := fun q => by rw [h] at q; cases q
theorem Goes.retI (X : Stand p l e R s m args below meth c T locs cells slots) (hx : p.tables.exec = Jvm.exec) (eT : T.heap = h) {pc : Nat} {Ls : Array Slot} {z : Int32} {rest : List Value} (hret : meth.sig.returnType = some .int) (hlk : meth.locks = false) (hd : decode c.code pc = .ok (.ireturn, 1)) (hk : cells ≤ k) (hn : slots ≤ n) (hQ : Q (some (.int z)) h locs) :
    Goes p e below s Q k n (T.setTop (mkF m pc Ls (.int z :: rest))) :=
  Goes.out X eT (own_some hret) hlk (fun fs hr => retOut X hx hret rfl (Or.inl ⟨rfl, Or.inl rfl, z, rfl⟩) hd hr) hk hn hQ
theorem Goes.retN (X : Stand p l e R s m args below meth c T locs cells slots) (hx : p.tables.exec = Jvm.exec) (eT : T.heap = h) {pc : Nat} {Ls : Array Slot} {z : Int32} {t : FieldType} {rest : List Value} (hret : meth.sig.returnType = some t) (ht : t = .boolean ∨ t = .byte ∨ t = .char ∨ t = .short) (hlk : meth.locks = false) (hd : decode c.code pc = .ok (.ireturn, 1)) (hk : cells ≤ k) (hn : slots ≤ n) (hQ : Q (some (.int (nar t z))) h locs) :
    Goes p e below s Q k n (T.setTop (mkF m pc Ls (.int z :: rest))) :=
  Goes.out X eT (own_some hret) hlk (fun fs hr => Jvm.RoadKit.retN X hx hret ht hd hr) hk hn hQ
theorem Goes.retV (X : Stand p l e R s m args below meth c T locs cells slots) (hx : p.tables.exec = Jvm.exec) (eT : T.heap = h) {pc : Nat} {Ls : Array Slot} (hret : meth.sig.returnType = none) (hlk : meth.locks = false) (hd : decode c.code pc = .ok (.return_, 1)) (hk : cells ≤ k) (hn : slots ≤ n) (hQ : Q none h locs) :
    Goes p e below s Q k n (T.setTop (mkF m pc Ls [])) :=
  Goes.out X eT (fun _ => rfl) hlk (fun fs hr => X.returnOut hx hret hd hr) hk hn hQ
theorem Goes.retJ (X : Stand p l e R s m args below meth c T locs cells slots) (hx : p.tables.exec = Jvm.exec) (eT : T.heap = h) {pc : Nat} {Ls : Array Slot} {z : Int64} {rest : List Value} (hret : meth.sig.returnType = some .long) (hlk : meth.locks = false) (hd : decode c.code pc = .ok (.lreturn, 1)) (hk : cells ≤ k) (hn : slots ≤ n) (hQ : Q (some (.long z)) h locs) :
    Goes p e below s Q k n (T.setTop (mkF m pc Ls (.long z :: rest))) :=
  Goes.out X eT (own_some hret) hlk (fun fs hr => retOut X hx hret rfl (Or.inr (Or.inl ⟨rfl, rfl, z, rfl⟩)) hd hr) hk hn hQ
theorem Goes.retD (X : Stand p l e R s m args below meth c T locs cells slots) (hx : p.tables.exec = Jvm.exec) (eT : T.heap = h) {pc : Nat} {Ls : Array Slot} {z : UInt64} {rest : List Value} (hret : meth.sig.returnType = some .double) (hlk : meth.locks = false) (hd : decode c.code pc = .ok (.dreturn, 1)) (hk : cells ≤ k) (hn : slots ≤ n) (hQ : Q (some (.double z)) h locs) :
    Goes p e below s Q k n (T.setTop (mkF m pc Ls (.double z :: rest))) :=
  Goes.out X eT (own_some hret) hlk (fun fs hr => retOut X hx hret rfl (Or.inr (Or.inr (Or.inl ⟨rfl, rfl, z, rfl⟩))) hd hr) hk hn hQ
theorem own_narR {t : FieldType} {w : Value} (h : t.isReference = true) : narrow t w = w := by cases t <;> first | rfl | (cases w <;> first | rfl | cases h)
theorem Goes.retA (X : Stand p l e R s m args below meth c T locs cells slots) (hx : p.tables.exec = Jvm.exec) (eT : T.heap = h) {pc : Nat} {Ls : Array Slot} {w : Value} {t : FieldType} {rest : List Value} (hret : meth.sig.returnType = some t) (ht : t.isReference = true) (hw : w.isRef = true) (hlk : meth.locks = false) (hd : decode c.code pc = .ok (.areturn, 1)) (hk : cells ≤ k) (hn : slots ≤ n) (hQ : Q (some w) h locs) :
    Goes p e below s Q k n (T.setTop (mkF m pc Ls (w :: rest))) :=
  Goes.out X eT (own_some hret) hlk (fun fs hr => retOut X hx hret (own_narR ht) (Or.inr (Or.inr (Or.inr (Or.inr ⟨rfl, ht, hw⟩)))) hd hr) hk hn hQ
theorem own_z {Z : State} {n0 : Nat} (O : Old Z n0 h) : n0 ≤ h.size := O.1 ▸ O.2.1
end Own
end Jvm.RoadKit
namespace Jvm.RoadKit
open Sem ClassFile Op Lib Jvm.Stand Jvm.Free Jvm.LawKit
section OwnW
variable {p : Program} {l : Launch} {e : Env} {R : Room} {s : State} {m : MethodId} {args : Array Value} {below : List Frame} {meth : Method} {c : Code} {T : State} {locs : List Loc} {cells slots : Nat} {Q : Option Value → Heap → List Loc → Prop} {k n : Nat} {A B : State} {h : Heap}
/-- the same, of a run that may intern String constants: the start s, its tables at hand vm0 -/
def GoesW (p : Program) (e : Env) (below : List Frame) (s : State) (Q : Option Value → Heap → List Loc → Prop) (k n : Nat) (A : State) : Prop :=
  ∃ s₂ o, Steps p.tables e below A s₂ ∧ s₂.status = .running ∧ Ended s₂ below o ∧ ∃ v L, o = .returned v ∧ Q v s₂.heap L ∧ ReturnedEndW s o s₂ L k n
theorem GoesW.step (q : ∀ t, Steps p.tables e below B t → Steps p.tables e below A t) (g : GoesW p e below s Q k n B) : GoesW p e below s Q k n A := by
  obtain ⟨s₂, o, h1, h2⟩ := g
  exact ⟨s₂, o, q _ h1, h2⟩
theorem GoesW.via (q : Steps p.tables e below A B) (g : GoesW p e below s Q k n B) : GoesW p e below s Q k n A := by
  obtain ⟨s₂, o, h1, h2⟩ := g
  exact ⟨s₂, o, q.trans h1, h2⟩
theorem GoesW.enter {g g' : JFrame} (q : g = g') (h : GoesW p e below s Q k n (T.setTop g')) : GoesW p e below s Q k n (T.setTop g) := q ▸ h
theorem GoesW.out {vm0 : Vm} {k0 : Nat} (X : Stand p l e R (s.setVm vm0) m args below meth c T locs cells slots) (hS : s.Since vm0 k0) (hk0 : k0 ≤ h.size) (eT : T.heap = h) {v : Option Value} (hv : meth.sig.returnType = none → v = none) (hlk : meth.locks = false)
    (hs : ∀ fs, (∀ (f : JFrame) (acts : List Action), f.method = m → f.locked = none → f.entered = [] → (doReturn e (T.setTop f) acts v).1 = T.setFrames fs) → Steps p.tables e below A (T.setFrames fs)) (hk : cells ≤ k) (hn : slots ≤ n) (hQ : Q v h locs) : GoesW p e below s Q k n A := by
  obtain ⟨fs, hr, hrun, hended, hW1, hW2, hW3, hW4⟩ := X.leaveW hS (by rw [eT]; exact hk0) (v := v) hv hlk
  exact ⟨_, _, hs fs hr, hrun, hended, _, _, rfl, (by show Q v T.heap locs; rw [eT]; exact hQ), hW1, hW2, hW3, hW4.mono hk hn⟩
theorem GoesW.retI {vm0 : Vm} {k0 : Nat} (X : Stand p l e R (s.setVm vm0) m args below meth c T locs cells slots) (hS : s.Since vm0 k0) (hk0 : k0 ≤ h.size) (hx : p.tables.exec = Jvm.exec) (eT : T.heap = h) {pc : Nat} {Ls : Array Slot} {z : Int32} {rest : List Value} (hret : meth.sig.returnType = some .int) (hlk : meth.locks = false) (hd : decode c.code pc = .ok (.ireturn, 1)) (hk : cells ≤ k) (hn : slots ≤ n) (hQ : Q (some (.int z)) h locs) :
    GoesW p e below s Q k n (T.setTop (mkF m pc Ls (.int z :: rest))) :=
  GoesW.out X hS hk0 eT (own_some hret) hlk (fun fs hr => retOut X hx hret rfl (Or.inl ⟨rfl, Or.inl rfl, z, rfl⟩) hd hr) hk hn hQ
theorem GoesW.retN {vm0 : Vm} {k0 : Nat} (X : Stand p l e R (s.setVm vm0) m args below meth c T locs cells slots) (hS : s.Since vm0 k0) (hk0 : k0 ≤ h.size) (hx : p.tables.exec = Jvm.exec) (eT : T.heap = h) {pc : Nat} {Ls : Array Slot} {z : Int32} {t : FieldType} {rest : List Value} (hret : meth.sig.returnType = some t) (ht : t = .boolean ∨ t = .byte ∨ t = .char ∨ t = .short) (hlk : meth.locks = false) (hd : decode c.code pc = .ok (.ireturn, 1)) (hk : cells ≤ k) (hn : slots ≤ n) (hQ : Q (some (.int (nar t z))) h locs) :
    GoesW p e below s Q k n (T.setTop (mkF m pc Ls (.int z :: rest))) :=
  GoesW.out X hS hk0 eT (own_some hret) hlk (fun fs hr => Jvm.RoadKit.retN X hx hret ht hd hr) hk hn hQ
theorem GoesW.retV {vm0 : Vm} {k0 : Nat} (X : Stand p l e R (s.setVm vm0) m args below meth c T locs cells slots) (hS : s.Since vm0 k0) (hk0 : k0 ≤ h.size) (hx : p.tables.exec = Jvm.exec) (eT : T.heap = h) {pc : Nat} {Ls : Array Slot} (hret : meth.sig.returnType = none) (hlk : meth.locks = false) (hd : decode c.code pc = .ok (.return_, 1)) (hk : cells ≤ k) (hn : slots ≤ n) (hQ : Q none h locs) :
    GoesW p e below s Q k n (T.setTop (mkF m pc Ls [])) :=
  GoesW.out X hS hk0 eT (fun _ => rfl) hlk (fun fs hr => X.returnOut hx hret hd hr) hk hn hQ
theorem GoesW.retJ {vm0 : Vm} {k0 : Nat} (X : Stand p l e R (s.setVm vm0) m args below meth c T locs cells slots) (hS : s.Since vm0 k0) (hk0 : k0 ≤ h.size) (hx : p.tables.exec = Jvm.exec) (eT : T.heap = h) {pc : Nat} {Ls : Array Slot} {z : Int64} {rest : List Value} (hret : meth.sig.returnType = some .long) (hlk : meth.locks = false) (hd : decode c.code pc = .ok (.lreturn, 1)) (hk : cells ≤ k) (hn : slots ≤ n) (hQ : Q (some (.long z)) h locs) :
    GoesW p e below s Q k n (T.setTop (mkF m pc Ls (.long z :: rest))) :=
  GoesW.out X hS hk0 eT (own_some hret) hlk (fun fs hr => retOut X hx hret rfl (Or.inr (Or.inl ⟨rfl, rfl, z, rfl⟩)) hd hr) hk hn hQ
theorem GoesW.retA {vm0 : Vm} {k0 : Nat} (X : Stand p l e R (s.setVm vm0) m args below meth c T locs cells slots) (hS : s.Since vm0 k0) (hk0 : k0 ≤ h.size) (hx : p.tables.exec = Jvm.exec) (eT : T.heap = h) {pc : Nat} {Ls : Array Slot} {w : Value} {t : FieldType} {rest : List Value} (hret : meth.sig.returnType = some t) (ht : t.isReference = true) (hw : w.isRef = true) (hlk : meth.locks = false) (hd : decode c.code pc = .ok (.areturn, 1)) (hk : cells ≤ k) (hn : slots ≤ n) (hQ : Q (some w) h locs) :
    GoesW p e below s Q k n (T.setTop (mkF m pc Ls (w :: rest))) :=
  GoesW.out X hS hk0 eT (own_some hret) hlk (fun fs hr => retOut X hx hret (own_narR ht) (Or.inr (Or.inr (Or.inr (Or.inr ⟨rfl, ht, hw⟩)))) hd hr) hk hn hQ
end OwnW
end Jvm.RoadKit
namespace Jvm.Pilot.@@N@@
open Jvm Jvm.ClassFile Sem Op Lib Jvm.Free Jvm.Stand Jvm.LawKit Jvm.RoadKit Bundle Jvm.Pilot.@@N@@.Jvm.D
theorem own_st {x z : Int32} (h : z = (x &&& (2147483647 : Int32))) : 0 ≤ z.toInt := by
  have a := c_mask x 2147483647 31 (by decide) (by decide)
  rw [← h] at a
  omega
theorem own_sp {z : Int32} {sp : Int64} (h : sp = (((2147483647 : Int64) - (z.toInt64)) + (1 : Int64))) (h0 : 0 ≤ z.toInt) : sp.toInt = 2147483648 - z.toInt ∧ sp ≠ 0 := by
  have r := rng32 z
  have e1 : (1 : Int64).toInt = 1 := by decide
  have eM : (2147483647 : Int64).toInt = 2147483647 := by decide
  have a := c_i2l z
  have b := c_lsub 2147483647 z.toInt64
  have c := c_ladd (2147483647 - z.toInt64) 1
  have rb := rng64 (2147483647 - z.toInt64)
  have rc := rng64 sp
  rw [← h] at c
  have q : sp.toInt = 2147483648 - z.toInt := by omega
  refine ⟨q, fun e => ?_⟩
  rw [e] at q
  have e0 : (0 : Int64).toInt = 0 := by decide
  omega
theorem own_en {z i en : Int32} {sp : Int64} (hsp : sp.toInt = 2147483648 - z.toInt) (h0 : 0 ≤ z.toInt)
    (h : en = ((z.toInt64) + (((i.toInt64) &&& (2147483647 : Int64)) - (((i.toInt64) &&& (2147483647 : Int64)) / sp) * sp)).toInt32) : z.toInt ≤ en.toInt := by
  have r := rng32 z
  have m := c_maskL (i.toInt64) 2147483647 31 (by decide) (by decide)
  have a := c_i2l z
  have d := (c_lrem ((i.toInt64) &&& (2147483647 : Int64)) sp sp.toInt rfl).1 (by omega)
  generalize ((i.toInt64) &&& (2147483647 : Int64)) = u at *
  have q3 := Int.emod_nonneg u.toInt (b := sp.toInt) (by omega)
  have q4 := Int.emod_lt_of_pos u.toInt (b := sp.toInt) (by omega)
  generalize (u - (u / sp) * sp) = v at *
  have c := c_ladd z.toInt64 v
  have rc := rng64 (z.toInt64 + v)
  have f := c_l2i (z.toInt64 + v)
  have rf := rng32 en
  rw [← h] at f
  omega
theorem own_lt1 {a b : Int32} (h : a < b) : a.toInt < b.toInt := Int32.lt_iff_toInt_lt.mp h
theorem own_nlt {a b : Int32} (h : b.toInt ≤ a.toInt) : ¬ a < b := fun q => by have := Int32.lt_iff_toInt_lt.mp q; omega
theorem own_nlt' {a b : Int32} (h : ¬ a < b) : b.toInt ≤ a.toInt := by rw [Int32.lt_iff_toInt_lt] at h; omega
theorem own_sub {p z : Int32} : ((p.toInt64) - (z.toInt64)).toInt = p.toInt - z.toInt := by
  have a := c_i2l p
  have b := c_i2l z
  have c := c_lsub p.toInt64 z.toInt64
  have r1 := rng32 p
  have r2 := rng32 z
  have r3 := rng64 (p.toInt64 - z.toInt64)
  omega
theorem own_o1 {p z : Int32} (h : p < z) : ((p.toInt64) - (z.toInt64)) < (0 : Int64) := by
  rw [Int64.lt_iff_toInt_lt, own_sub]
  have := own_lt1 h
  have e0 : (0 : Int64).toInt = 0 := by decide
  omega
theorem own_o2 {p z : Int32} (h : ¬ p < z) : ¬ ((p.toInt64) - (z.toInt64)) < (0 : Int64) := by
  rw [Int64.lt_iff_toInt_lt, own_sub]
  have := own_nlt' h
  have e0 : (0 : Int64).toInt = 0 := by decide
  omega
theorem own_o3 {p z en : Int32} (h : en < p) : ((en.toInt64) - (z.toInt64)) < ((p.toInt64) - (z.toInt64)) := by
  rw [Int64.lt_iff_toInt_lt, own_sub, own_sub]
  have := own_lt1 h
  omega
theorem own_o4 {p z en : Int32} (h : ¬ en < p) : ¬ ((en.toInt64) - (z.toInt64)) < ((p.toInt64) - (z.toInt64)) := by
  rw [Int64.lt_iff_toInt_lt, own_sub, own_sub]
  have := own_nlt' h
  omega
theorem own_dec {z : Int32} (h : 0 ≤ z.toInt) : (z - (1 : Int32)) < z := by
  rw [Int32.lt_iff_toInt_lt]
  have a := c_isub z 1
  have e1 : (1 : Int32).toInt = 1 := by decide
  have r := rng32 (z - 1)
  have r' := rng32 z
  omega
theorem own_inc {z : Int32} (h : z < (2147483647 : Int32)) : z < (z + (1 : Int32)) ∧ (z + (1 : Int32)).toInt = z.toInt + 1 := by
  have q := own_lt1 h
  have eM : (2147483647 : Int32).toInt = 2147483647 := by decide
  rw [Int32.lt_iff_toInt_lt]
  have a := c_iadd z 1
  have e1 : (1 : Int32).toInt = 1 := by decide
  have r := rng32 (z + 1)
  have r' := rng32 z
  omega
theorem d2_0 : decode jdk_30_method_1_code 0 = .ok (.aload_n 0, 1) := by decide +kernel
theorem d2_1 : decode jdk_30_method_1_code 1 = .ok (.invokespecial 1, 3) := by decide +kernel
theorem d2_4 : decode jdk_30_method_1_code 4 = .ok (.return_, 1) := by decide +kernel
theorem pn_Record : plainName "java/lang/Record" = true := by first | (simp [plainName, overriddenIn]; done) | decide +kernel
theorem ef_rm2 (m : MethodId) (x0 : Addr) : entryFrame m #[(.ref x0)] 1 = mkF m 0 #[.val (.ref x0)] [] := by first | (simp [entryFrame, mkF, argsToLocals, Value.category]; done) | rfl
def Q2 (Z : State) (a1 : Addr) (h0 : Heap) (n0 : Nat) (v : Option Value) (h : Heap) (L : List Loc) : Prop := v = none ∧ Fr n0 L ∧ h = h0
set_option maxRecDepth 65536 in
set_option maxHeartbeats 40000000 in
theorem rm2 (l : Launch) (Z : State) (a0 : Array Value) (hw : ∀ d ∈ tables_1, d.before a0 Z = true) (ws : List Jvm.Cond) (a1 : Addr) (h0 : Heap) (n0 : Nat) (O0 : Old Z n0 h0) :
    MetFree l (⟨"java/lang/Record", "<init>", "()V"⟩ : MethodName) (head1 (Jvm.Cond.code (⟨"java/lang/Record", "<init>", "()V"⟩ : MethodName) jdk_30_method_1_code 1 none :: ws) ({ frames := 1, cells := 0, slots := 0, locals := 12 } : Room)) (fun a U => a = #[(.ref a1)] ∧ Z.Warmed39 U.vm ∧ U.heap = h0) (fun _ _ _ _ _ => True) (fun _ U o U' => ∃ v L, o = .returned v ∧ Q2 Z a1 h0 n0 v U'.heap L ∧ FrameEnd U o U' L ({ frames := 1, cells := 0, slots := 0, locals := 12 } : Room).cells ({ frames := 1, cells := 0, slots := 0, locals := 12 } : Room).slots) := by
  refine MetFree.of_bodySF (plainFor_of_name pn_Record) hisR ?_
  intro p e s m args below meth c s₁ Bd hml0 hP hK
  obtain ⟨rfl, hZ, hh⟩ := hP
  have hx := Bd.exec
  have hby := Bd.bytes
  have hlk : meth.locks = false := BodyLoose.notSynchronized Bd
  have hml : c.maxLocals = 1 := hml0
  have hown : s.vm.findClass "java/lang/Record" = some m.cls := findClass_of_methodNamed Bd.named
  have hnm := (name_of_methodNamed Bd.named Bd.method).1
  have X0 : Stand p l e ({ frames := 1, cells := 0, slots := 0, locals := 12 } : Room) s m #[(.ref a1)] below meth c s₁ [] 0 0 := Stand.of_body Bd
  have e0 : s₁.heap = h0 := by rw [← hh, Bd.state]; rfl
  have N0 := Fr.nil n0
  show Goes p e below s (Q2 Z a1 h0 n0) ({ frames := 1, cells := 0, slots := 0, locals := 12 } : Room).cells ({ frames := 1, cells := 0, slots := 0, locals := 12 } : Room).slots (s₁.setTop (entryFrame m #[(.ref a1)] 1))
  refine Goes.enter (g' := (mkF m 0 #[.val (.ref a1)] [])) (ef_rm2 m a1) ?_
  refine Goes.step (B := s₁.setTop (mkF m 1 #[.val (.ref a1)] [(.ref a1)])) (fun _ k => XS.aloadN X0.here hx rfl (hb hby d2_0) rfl rfl k) ?_
  obtain ⟨T1, X1, e1, st1⟩ := initO X0 hx hZ hown (hw _ (List.mem_of_getElem? (i := 24) rfl)) (hw _ (List.mem_of_getElem? (i := 25) rfl)) (hw _ (List.mem_of_getElem? (i := 26) rfl)) e0 (g := (mkF m 1 #[.val (.ref a1)] [(.ref a1)])) rfl (by rw [hml]; rfl) rfl (hb hby d2_1) (by decide) (W := 0) (by show 2 * 0 + _ ≤ _; exact Nat.le_of_eq rfl) (by decide)
  refine Goes.step (B := T1.setTop (mkF m 4 #[.val (.ref a1)] [])) st1 ?_
  exact Goes.retV X1 hx e1 Bd.returns hlk (hb hby d2_4) (by decide) (by decide) (⟨rfl, N0, rfl⟩)
theorem d1_0 : decode prog_56_method_1_code 0 = .ok (.aload_n 0, 1) := by decide +kernel
theorem d1_1 : decode prog_56_method_1_code 1 = .ok (.invokespecial 1, 3) := by decide +kernel
theorem pd_0 : parseMethodDescriptor "()V" = some ⟨[], none⟩ := by decide +kernel
theorem d1_4 : decode prog_56_method_1_code 4 = .ok (.aload_n 0, 1) := by decide +kernel
theorem d1_5 : decode prog_56_method_1_code 5 = .ok (.dload_n 1, 1) := by decide +kernel
theorem d1_6 : decode prog_56_method_1_code 6 = .ok (.putfield 7, 3) := by decide +kernel
theorem d1_9 : decode prog_56_method_1_code 9 = .ok (.aload_n 0, 1) := by decide +kernel
theorem d1_10 : decode prog_56_method_1_code 10 = .ok (.dload_n 3, 1) := by decide +kernel
theorem d1_11 : decode prog_56_method_1_code 11 = .ok (.putfield 13, 3) := by decide +kernel
theorem d1_14 : decode prog_56_method_1_code 14 = .ok (.return_, 1) := by decide +kernel
theorem pn_Position : plainName "com/example/errantry/errantry/workload/Position" = true := by first | (simp [plainName, overriddenIn]; done) | decide +kernel
theorem ef_rm1 (m : MethodId) (x0 : Addr) (x1 : UInt64) (x2 : UInt64) : entryFrame m #[(.ref x0), (.double x1), (.double x2)] 5 = mkF m 0 #[.val (.ref x0), .val (.double x1), .second, .val (.double x2), .second] [] := by first | (simp [entryFrame, mkF, argsToLocals, Value.category]; done) | rfl
def Q1 (Z : State) (a0r : Addr) (p1 : UInt64) (p2 : UInt64) (h0 : Heap) (n0 : Nat) (v : Option Value) (h : Heap) (L : List Loc) : Prop := v = none ∧ Fr n0 L ∧ Keep h0 h [a0r] ∧ Exa Z h a0r "com/example/errantry/errantry/workload/Position" ∧ Fld Z h a0r "com/example/errantry/errantry/workload/Position" "lat" "D" (.double p1) ∧ Fld Z h a0r "com/example/errantry/errantry/workload/Position" "lon" "D" (.double p2)
set_option maxRecDepth 65536 in
set_option maxHeartbeats 40000000 in
theorem rm1 (l : Launch) (Z : State) (a0 : Array Value) (hw : ∀ d ∈ tables_1, d.before a0 Z = true) (ws : List Jvm.Cond) (a0r : Addr) (p1 : UInt64) (p2 : UInt64) (h0 : Heap) (n0 : Nat) (O0 : Old Z n0 h0) (Er : Exa Z h0 a0r "com/example/errantry/errantry/workload/Position") (gr : n0 ≤ a0r) (Fr_lat : Fld Z h0 a0r "com/example/errantry/errantry/workload/Position" "lat" "D" (.double (0 : UInt64))) (Fr_lon : Fld Z h0 a0r "com/example/errantry/errantry/workload/Position" "lon" "D" (.double (0 : UInt64))) :
    MetFree l (⟨"com/example/errantry/errantry/workload/Position", "<init>", "(DD)V"⟩ : MethodName) (head1 (Jvm.Cond.code (⟨"com/example/errantry/errantry/workload/Position", "<init>", "(DD)V"⟩ : MethodName) prog_56_method_1_code 5 none :: ws) ({ frames := 2, cells := 0, slots := 0, locals := 24 } : Room)) (fun a U => a = #[(.ref a0r), (.double p1), (.double p2)] ∧ Z.Warmed39 U.vm ∧ U.heap = h0) (fun _ _ _ _ _ => True) (fun _ U o U' => ∃ v L, o = .returned v ∧ Q1 Z a0r p1 p2 h0 n0 v U'.heap L ∧ FrameEnd U o U' L ({ frames := 2, cells := 0, slots := 0, locals := 24 } : Room).cells ({ frames := 2, cells := 0, slots := 0, locals := 24 } : Room).slots) := by
  refine MetFree.of_bodySF (plainFor_of_name pn_Position) hisR ?_
  intro p e s m args below meth c s₁ Bd hml0 hP hK
  obtain ⟨rfl, hZ, hh⟩ := hP
  have hx := Bd.exec
  have hby := Bd.bytes
  have hlk : meth.locks = false := BodyLoose.notSynchronized Bd
  have hml : c.maxLocals = 5 := hml0
  have hown : s.vm.findClass "com/example/errantry/errantry/workload/Position" = some m.cls := findClass_of_methodNamed Bd.named
  have hnm := (name_of_methodNamed Bd.named Bd.method).1
  have X0 : Stand p l e ({ frames := 2, cells := 0, slots := 0, locals := 24 } : Room) s m #[(.ref a0r), (.double p1), (.double p2)] below meth c s₁ [] 0 0 := Stand.of_body Bd
  have e0 : s₁.heap = h0 := by rw [← hh, Bd.state]; rfl
  have N0 := Fr.nil n0
  show Goes p e below s (Q1 Z a0r p1 p2 h0 n0) ({ frames := 2, cells := 0, slots := 0, locals := 24 } : Room).cells ({ frames := 2, cells := 0, slots := 0, locals := 24 } : Room).slots (s₁.setTop (entryFrame m #[(.ref a0r), (.double p1), (.double p2)] 5))
  refine Goes.enter (g' := (mkF m 0 #[.val (.ref a0r), .val (.double p1), .second, .val (.double p2), .second] [])) (ef_rm1 m a0r p1 p2) ?_
  refine Goes.step (B := s₁.setTop (mkF m 1 #[.val (.ref a0r), .val (.double p1), .second, .val (.double p2), .second] [(.ref a0r)])) (fun _ k => XS.aloadN X0.here hx rfl (hb hby d1_0) rfl rfl k) ?_
  obtain ⟨_, _, ⟨T1, L1, k1, n1⟩, -, X1, ⟨Lc1, hQ1, l1, y1, z1⟩, st1⟩ := X0.specialBack hx (y := (⟨"java/lang/Record", "<init>", "()V"⟩ : MethodName)) rfl hown (mvT hZ (hw _ (List.mem_of_getElem? (i := 19) rfl))) (mvT hZ (hw _ (List.mem_of_getElem? (i := 20) rfl))) (mvT hZ (hw _ (List.mem_of_getElem? (i := 23) rfl))) (by decide) (backOf (W := 0) (rm2 l Z a0 hw [] a0r h0 n0 O0 ) hZ (hw _ (List.mem_of_getElem? (i := 23) rfl)) (hw _ (List.mem_of_getElem? (i := 22) rfl)) (by decide) (by decide)) (g := (mkF m 1 #[.val (.ref a0r), .val (.double p1), .second, .val (.double p2), .second] [(.ref a0r)])) rfl (by rw [hml]; rfl) (Steps.refl _) (a := a0r) (argsL := []) (rest := []) (lenOf pd_0 rfl) rfl (by show 2 * 0 + _ ≤ _; exact Nat.le_of_eq rfl) (hb hby d1_1) (fun _ _ => ⟨rfl, e0, (by decide : 0 + 0 ≤ _), (by decide : 0 + 0 ≤ _)⟩)
  dsimp only [Pt.U, Pt.locs, Pt.cells, Pt.slots] at X1 l1 y1 z1 st1 hQ1
  subst l1 y1 z1
  obtain ⟨rfl, Nq1, eh1⟩ := hQ1
  have N1 := Fr.app N0 Nq1
  refine Goes.via (B := T1.setTop (mkF m 4 #[.val (.ref a0r), .val (.double p1), .second, .val (.double p2), .second] [])) st1 ?_
  refine Goes.step (B := T1.setTop (mkF m 5 #[.val (.ref a0r), .val (.double p1), .second, .val (.double p2), .second] [(.ref a0r)])) (fun _ k => XS.aloadN X1.here hx rfl (hb hby d1_4) rfl rfl k) ?_
  refine Goes.step (B := T1.setTop (mkF m 6 #[.val (.ref a0r), .val (.double p1), .second, .val (.double p2), .second] [(.double p1), (.ref a0r)])) (fun _ k => XS.dloadN X1.here hx rfl (hb hby d1_5) rfl k) ?_
  obtain ⟨T2, h2, X2, e2, W2, st2⟩ := putF X1 hx hZ hown (host := "") (Or.inl (hw _ (List.mem_of_getElem? (i := 27) rfl))) Via.refl eh1 Fr_lat Er (Or.inr ⟨(hw _ (List.mem_of_getElem? (i := 28) rfl)), rfl, hnm⟩) (hw _ (List.mem_of_getElem? (i := 14) rfl)) (ty := .double) (by decide) rfl rfl (g := (mkF m 6 #[.val (.ref a0r), .val (.double p1), .second, .val (.double p2), .second] [(.double p1), (.ref a0r)])) rfl rfl (hb hby d1_6)
  have Fw2 := Fr_lat.same W2
  have N2 := Fr.snoc X2 N1 gr
  have O_2 := O0.wr W2 gr
  have K_2 := (Keep.refl h0 [a0r]).wr W2 (Or.inl (List.mem_of_getElem? (i := 0) rfl))
  refine Goes.step (B := T2.setTop (mkF m 9 #[.val (.ref a0r), .val (.double p1), .second, .val (.double p2), .second] [])) st2 ?_
  refine Goes.step (B := T2.setTop (mkF m 10 #[.val (.ref a0r), .val (.double p1), .second, .val (.double p2), .second] [(.ref a0r)])) (fun _ k => XS.aloadN X2.here hx rfl (hb hby d1_9) rfl rfl k) ?_
  refine Goes.step (B := T2.setTop (mkF m 11 #[.val (.ref a0r), .val (.double p1), .second, .val (.double p2), .second] [(.double p2), (.ref a0r)])) (fun _ k => XS.dloadN X2.here hx rfl (hb hby d1_10) rfl k) ?_
  have f3 := (Er.wr W2)
  have f4 := (Fr_lon.other W2 (Or.inr (slot_ne (Or.inr (hw _ (List.mem_of_getElem? (i := 30) rfl))) (Or.inr (hw _ (List.mem_of_getElem? (i := 28) rfl))) (by decide) (t := .double) (t' := .double) (by decide) (by decide))))
  obtain ⟨T5, h5, X5, e5, W5, st5⟩ := putF X2 hx hZ hown (host := "") (Or.inl (hw _ (List.mem_of_getElem? (i := 29) rfl))) Via.refl e2 f4 f3 (Or.inr ⟨(hw _ (List.mem_of_getElem? (i := 30) rfl)), rfl, hnm⟩) (hw _ (List.mem_of_getElem? (i := 14) rfl)) (ty := .double) (by decide) rfl rfl (g := (mkF m 11 #[.val (.ref a0r), .val (.double p1), .second, .val (.double p2), .second] [(.double p2), (.ref a0r)])) rfl rfl (hb hby d1_11)
  have Fw5 := f4.same W5
  have N5 := Fr.snoc X5 N2 gr
  have O_5 := O_2.wr W5 gr
  have K_5 := K_2.wr W5 (Or.inl (List.mem_of_getElem? (i := 0) rfl))
  refine Goes.step (B := T5.setTop (mkF m 14 #[.val (.ref a0r), .val (.double p1), .second, .val (.double p2), .second] [])) st5 ?_
  have f6 := (f3.wr W5)
  have f7 := (Fw2.other W5 (Or.inr (slot_ne (Or.inr (hw _ (List.mem_of_getElem? (i := 28) rfl))) (Or.inr (hw _ (List.mem_of_getElem? (i := 30) rfl))) (by decide) (t := .double) (t' := .double) (by decide) (by decide))))
  exact Goes.retV X5 hx e5 Bd.returns hlk (hb hby d1_14) (by decide) (by decide) (⟨rfl, N5, K_5, f6, f7, Fw5⟩)
theorem d4_0 : decode prog_61_method_1_code 0 = .ok (.aload_n 0, 1) := by decide +kernel
theorem d4_1 : decode prog_61_method_1_code 1 = .ok (.invokespecial 1, 3) := by decide +kernel
theorem d4_4 : decode prog_61_method_1_code 4 = .ok (.aload_n 0, 1) := by decide +kernel
theorem d4_5 : decode prog_61_method_1_code 5 = .ok (.aload_n 1, 1) := by decide +kernel
theorem d4_6 : decode prog_61_method_1_code 6 = .ok (.putfield 7, 3) := by decide +kernel
theorem d4_9 : decode prog_61_method_1_code 9 = .ok (.aload_n 0, 1) := by decide +kernel
theorem d4_10 : decode prog_61_method_1_code 10 = .ok (.aload_n 2, 1) := by decide +kernel
theorem d4_11 : decode prog_61_method_1_code 11 = .ok (.putfield 13, 3) := by decide +kernel
theorem d4_14 : decode prog_61_method_1_code 14 = .ok (.aload_n 0, 1) := by decide +kernel
theorem d4_15 : decode prog_61_method_1_code 15 = .ok (.dload_n 3, 1) := by decide +kernel
theorem d4_16 : decode prog_61_method_1_code 16 = .ok (.putfield 17, 3) := by decide +kernel
theorem d4_19 : decode prog_61_method_1_code 19 = .ok (.aload_n 0, 1) := by decide +kernel
theorem d4_20 : decode prog_61_method_1_code 20 = .ok (.iload 5, 2) := by decide +kernel
theorem d4_22 : decode prog_61_method_1_code 22 = .ok (.putfield 21, 3) := by decide +kernel
theorem d4_25 : decode prog_61_method_1_code 25 = .ok (.aload_n 0, 1) := by decide +kernel
theorem d4_26 : decode prog_61_method_1_code 26 = .ok (.iload 6, 2) := by decide +kernel
theorem d4_28 : decode prog_61_method_1_code 28 = .ok (.putfield 25, 3) := by decide +kernel
theorem d4_31 : decode prog_61_method_1_code 31 = .ok (.return_, 1) := by decide +kernel
theorem pn_Task : plainName "com/example/errantry/errantry/workload/Task" = true := by first | (simp [plainName, overriddenIn]; done) | decide +kernel
theorem ef_rm4 (m : MethodId) (x0 : Addr) (x1 : Addr) (x2 : Addr) (x3 : UInt64) (x4 : Int32) (x5 : Int32) : entryFrame m #[(.ref x0), (.ref x1), (.ref x2), (.double x3), (.int x4), (.int x5)] 7 = mkF m 0 #[.val (.ref x0), .val (.ref x1), .val (.ref x2), .val (.double x3), .second, .val (.int x4), .val (.int x5)] [] := by first | (simp [entryFrame, mkF, argsToLocals, Value.category]; done) | rfl
def Q4 (Z : State) (a0r : Addr) (p1 : Addr) (p2 : Addr) (p3 : UInt64) (p4 : Int32) (p5 : Int32) (h0 : Heap) (n0 : Nat) (v : Option Value) (h : Heap) (L : List Loc) : Prop := v = none ∧ Fr n0 L ∧ Keep h0 h [a0r] ∧ Exa Z h a0r "com/example/errantry/errantry/workload/Task" ∧ Fld Z h a0r "com/example/errantry/errantry/workload/Task" "id" "Ljava/lang/String;" (.ref p1) ∧ Fld Z h a0r "com/example/errantry/errantry/workload/Task" "position" "Lcom/example/errantry/errantry/workload/Position;" (.ref p2) ∧ Fld Z h a0r "com/example/errantry/errantry/workload/Task" "radiusM" "D" (.double p3) ∧ Fld Z h a0r "com/example/errantry/errantry/workload/Task" "start" "I" (.int p4) ∧ Fld Z h a0r "com/example/errantry/errantry/workload/Task" "end" "I" (.int p5)
set_option maxRecDepth 65536 in
set_option maxHeartbeats 40000000 in
theorem rm4 (l : Launch) (Z : State) (a0 : Array Value) (hw : ∀ d ∈ tables_1, d.before a0 Z = true) (ws : List Jvm.Cond) (a0r : Addr) (p1 : Addr) (p2 : Addr) (p3 : UInt64) (p4 : Int32) (p5 : Int32) (h0 : Heap) (n0 : Nat) (O0 : Old Z n0 h0) (Er : Exa Z h0 a0r "com/example/errantry/errantry/workload/Task") (gr : n0 ≤ a0r) (Fr_id : Fld Z h0 a0r "com/example/errantry/errantry/workload/Task" "id" "Ljava/lang/String;" .null) (Fr_position : Fld Z h0 a0r "com/example/errantry/errantry/workload/Task" "position" "Lcom/example/errantry/errantry/workload/Position;" .null) (Fr_radiusM : Fld Z h0 a0r "com/example/errantry/errantry/workload/Task" "radiusM" "D" (.double (0 : UInt64))) (Fr_start : Fld Z h0 a0r "com/example/errantry/errantry/workload/Task" "start" "I" (.int (0 : Int32))) (Fr_end : Fld Z h0 a0r "com/example/errantry/errantry/workload/Task" "end" "I" (.int (0 : Int32))) :
    MetFree l (⟨"com/example/errantry/errantry/workload/Task", "<init>", "(Ljava/lang/String;Lcom/example/errantry/errantry/workload/Position;DII)V"⟩ : MethodName) (head1 (Jvm.Cond.code (⟨"com/example/errantry/errantry/workload/Task", "<init>", "(Ljava/lang/String;Lcom/example/errantry/errantry/workload/Position;DII)V"⟩ : MethodName) prog_61_method_1_code 7 none :: ws) ({ frames := 2, cells := 0, slots := 0, locals := 24 } : Room)) (fun a U => a = #[(.ref a0r), (.ref p1), (.ref p2), (.double p3), (.int p4), (.int p5)] ∧ Z.Warmed39 U.vm ∧ U.heap = h0) (fun _ _ _ _ _ => True) (fun _ U o U' => ∃ v L, o = .returned v ∧ Q4 Z a0r p1 p2 p3 p4 p5 h0 n0 v U'.heap L ∧ FrameEnd U o U' L ({ frames := 2, cells := 0, slots := 0, locals := 24 } : Room).cells ({ frames := 2, cells := 0, slots := 0, locals := 24 } : Room).slots) := by
  refine MetFree.of_bodySF (plainFor_of_name pn_Task) hisR ?_
  intro p e s m args below meth c s₁ Bd hml0 hP hK
  obtain ⟨rfl, hZ, hh⟩ := hP
  have hx := Bd.exec
  have hby := Bd.bytes
  have hlk : meth.locks = false := BodyLoose.notSynchronized Bd
  have hml : c.maxLocals = 7 := hml0
  have hown : s.vm.findClass "com/example/errantry/errantry/workload/Task" = some m.cls := findClass_of_methodNamed Bd.named
  have hnm := (name_of_methodNamed Bd.named Bd.method).1
  have X0 : Stand p l e ({ frames := 2, cells := 0, slots := 0, locals := 24 } : Room) s m #[(.ref a0r), (.ref p1), (.ref p2), (.double p3), (.int p4), (.int p5)] below meth c s₁ [] 0 0 := Stand.of_body Bd
  have e0 : s₁.heap = h0 := by rw [← hh, Bd.state]; rfl
  have N0 := Fr.nil n0
  show Goes p e below s (Q4 Z a0r p1 p2 p3 p4 p5 h0 n0) ({ frames := 2, cells := 0, slots := 0, locals := 24 } : Room).cells ({ frames := 2, cells := 0, slots := 0, locals := 24 } : Room).slots (s₁.setTop (entryFrame m #[(.ref a0r), (.ref p1), (.ref p2), (.double p3), (.int p4), (.int p5)] 7))
  refine Goes.enter (g' := (mkF m 0 #[.val (.ref a0r), .val (.ref p1), .val (.ref p2), .val (.double p3), .second, .val (.int p4), .val (.int p5)] [])) (ef_rm4 m a0r p1 p2 p3 p4 p5) ?_
  refine Goes.step (B := s₁.setTop (mkF m 1 #[.val (.ref a0r), .val (.ref p1), .val (.ref p2), .val (.double p3), .second, .val (.int p4), .val (.int p5)] [(.ref a0r)])) (fun _ k => XS.aloadN X0.here hx rfl (hb hby d4_0) rfl rfl k) ?_
  obtain ⟨_, _, ⟨T1, L1, k1, n1⟩, -, X1, ⟨Lc1, hQ1, l1, y1, z1⟩, st1⟩ := X0.specialBack hx (y := (⟨"java/lang/Record", "<init>", "()V"⟩ : MethodName)) rfl hown (mvT hZ (hw _ (List.mem_of_getElem? (i := 34) rfl))) (mvT hZ (hw _ (List.mem_of_getElem? (i := 20) rfl))) (mvT hZ (hw _ (List.mem_of_getElem? (i := 23) rfl))) (by decide) (backOf (W := 0) (rm2 l Z a0 hw [] a0r h0 n0 O0 ) hZ (hw _ (List.mem_of_getElem? (i := 23) rfl)) (hw _ (List.mem_of_getElem? (i := 22) rfl)) (by decide) (by decide)) (g := (mkF m 1 #[.val (.ref a0r), .val (.ref p1), .val (.ref p2), .val (.double p3), .second, .val (.int p4), .val (.int p5)] [(.ref a0r)])) rfl (by rw [hml]; rfl) (Steps.refl _) (a := a0r) (argsL := []) (rest := []) (lenOf pd_0 rfl) rfl (by show 2 * 0 + _ ≤ _; exact Nat.le_of_eq rfl) (hb hby d4_1) (fun _ _ => ⟨rfl, e0, (by decide : 0 + 0 ≤ _), (by decide : 0 + 0 ≤ _)⟩)
  dsimp only [Pt.U, Pt.locs, Pt.cells, Pt.slots] at X1 l1 y1 z1 st1 hQ1
  subst l1 y1 z1
  obtain ⟨rfl, Nq1, eh1⟩ := hQ1
  have N1 := Fr.app N0 Nq1
  refine Goes.via (B := T1.setTop (mkF m 4 #[.val (.ref a0r), .val (.ref p1), .val (.ref p2), .val (.double p3), .second, .val (.int p4), .val (.int p5)] [])) st1 ?_
  refine Goes.step (B := T1.setTop (mkF m 5 #[.val (.ref a0r), .val (.ref p1), .val (.ref p2), .val (.double p3), .second, .val (.int p4), .val (.int p5)] [(.ref a0r)])) (fun _ k => XS.aloadN X1.here hx rfl (hb hby d4_4) rfl rfl k) ?_
  refine Goes.step (B := T1.setTop (mkF m 6 #[.val (.ref a0r), .val (.ref p1), .val (.ref p2), .val (.double p3), .second, .val (.int p4), .val (.int p5)] [(.ref p1), (.ref a0r)])) (fun _ k => XS.aloadN X1.here hx rfl (hb hby d4_5) rfl rfl k) ?_
  obtain ⟨T2, h2, X2, e2, W2, st2⟩ := putF X1 hx hZ hown (host := "") (Or.inl (hw _ (List.mem_of_getElem? (i := 35) rfl))) Via.refl eh1 Fr_id Er (Or.inr ⟨(hw _ (List.mem_of_getElem? (i := 36) rfl)), rfl, hnm⟩) (hw _ (List.mem_of_getElem? (i := 3) rfl)) (ty := (.object "java/lang/String")) (by decide) rfl rfl (g := (mkF m 6 #[.val (.ref a0r), .val (.ref p1), .val (.ref p2), .val (.double p3), .second, .val (.int p4), .val (.int p5)] [(.ref p1), (.ref a0r)])) rfl rfl (hb hby d4_6)
  have Fw2 := Fr_id.same W2
  have N2 := Fr.snoc X2 N1 gr
  have O_2 := O0.wr W2 gr
  have K_2 := (Keep.refl h0 [a0r]).wr W2 (Or.inl (List.mem_of_getElem? (i := 0) rfl))
  refine Goes.step (B := T2.setTop (mkF m 9 #[.val (.ref a0r), .val (.ref p1), .val (.ref p2), .val (.double p3), .second, .val (.int p4), .val (.int p5)] [])) st2 ?_
  refine Goes.step (B := T2.setTop (mkF m 10 #[.val (.ref a0r), .val (.ref p1), .val (.ref p2), .val (.double p3), .second, .val (.int p4), .val (.int p5)] [(.ref a0r)])) (fun _ k => XS.aloadN X2.here hx rfl (hb hby d4_9) rfl rfl k) ?_
  refine Goes.step (B := T2.setTop (mkF m 11 #[.val (.ref a0r), .val (.ref p1), .val (.ref p2), .val (.double p3), .second, .val (.int p4), .val (.int p5)] [(.ref p2), (.ref a0r)])) (fun _ k => XS.aloadN X2.here hx rfl (hb hby d4_10) rfl rfl k) ?_
  have f3 := (Er.wr W2)
  have f4 := (Fr_position.other W2 (Or.inr (slot_ne (Or.inr (hw _ (List.mem_of_getElem? (i := 38) rfl))) (Or.inr (hw _ (List.mem_of_getElem? (i := 36) rfl))) (by decide) (t := (.object "com/example/errantry/errantry/workload/Position")) (t' := (.object "java/lang/String")) (by decide) (by decide))))
  obtain ⟨T5, h5, X5, e5, W5, st5⟩ := putF X2 hx hZ hown (host := "") (Or.inl (hw _ (List.mem_of_getElem? (i := 37) rfl))) Via.refl e2 f4 f3 (Or.inr ⟨(hw _ (List.mem_of_getElem? (i := 38) rfl)), rfl, hnm⟩) (hw _ (List.mem_of_getElem? (i := 3) rfl)) (ty := (.object "com/example/errantry/errantry/workload/Position")) (by decide) rfl rfl (g := (mkF m 11 #[.val (.ref a0r), .val (.ref p1), .val (.ref p2), .val (.double p3), .second, .val (.int p4), .val (.int p5)] [(.ref p2), (.ref a0r)])) rfl rfl (hb hby d4_11)
  have Fw5 := f4.same W5
  have N5 := Fr.snoc X5 N2 gr
  have O_5 := O_2.wr W5 gr
  have K_5 := K_2.wr W5 (Or.inl (List.mem_of_getElem? (i := 0) rfl))
  refine Goes.step (B := T5.setTop (mkF m 14 #[.val (.ref a0r), .val (.ref p1), .val (.ref p2), .val (.double p3), .second, .val (.int p4), .val (.int p5)] [])) st5 ?_
  refine Goes.step (B := T5.setTop (mkF m 15 #[.val (.ref a0r), .val (.ref p1), .val (.ref p2), .val (.double p3), .second, .val (.int p4), .val (.int p5)] [(.ref a0r)])) (fun _ k => XS.aloadN X5.here hx rfl (hb hby d4_14) rfl rfl k) ?_
  refine Goes.step (B := T5.setTop (mkF m 16 #[.val (.ref a0r), .val (.ref p1), .val (.ref p2), .val (.double p3), .second, .val (.int p4), .val (.int p5)] [(.double p3), (.ref a0r)])) (fun _ k => XS.dloadN X5.here hx rfl (hb hby d4_15) rfl k) ?_
  have f6 := (f3.wr W5)
  have f7 := ((Fr_radiusM.other W2 (Or.inr (slot_ne (Or.inr (hw _ (List.mem_of_getElem? (i := 40) rfl))) (Or.inr (hw _ (List.mem_of_getElem? (i := 36) rfl))) (by decide) (t := .double) (t' := (.object "java/lang/String")) (by decide) (by decide)))).other W5 (Or.inr (slot_ne (Or.inr (hw _ (List.mem_of_getElem? (i := 40) rfl))) (Or.inr (hw _ (List.mem_of_getElem? (i := 38) rfl))) (by decide) (t := .double) (t' := (.object "com/example/errantry/errantry/workload/Position")) (by decide) (by decide))))
  obtain ⟨T8, h8, X8, e8, W8, st8⟩ := putF X5 hx hZ hown (host := "") (Or.inl (hw _ (List.mem_of_getElem? (i := 39) rfl))) Via.refl e5 f7 f6 (Or.inr ⟨(hw _ (List.mem_of_getElem? (i := 40) rfl)), rfl, hnm⟩) (hw _ (List.mem_of_getElem? (i := 3) rfl)) (ty := .double) (by decide) rfl rfl (g := (mkF m 16 #[.val (.ref a0r), .val (.ref p1), .val (.ref p2), .val (.double p3), .second, .val (.int p4), .val (.int p5)] [(.double p3), (.ref a0r)])) rfl rfl (hb hby d4_16)
  have Fw8 := f7.same W8
  have N8 := Fr.snoc X8 N5 gr
  have O_8 := O_5.wr W8 gr
  have K_8 := K_5.wr W8 (Or.inl (List.mem_of_getElem? (i := 0) rfl))
  refine Goes.step (B := T8.setTop (mkF m 19 #[.val (.ref a0r), .val (.ref p1), .val (.ref p2), .val (.double p3), .second, .val (.int p4), .val (.int p5)] [])) st8 ?_
  refine Goes.step (B := T8.setTop (mkF m 20 #[.val (.ref a0r), .val (.ref p1), .val (.ref p2), .val (.double p3), .second, .val (.int p4), .val (.int p5)] [(.ref a0r)])) (fun _ k => XS.aloadN X8.here hx rfl (hb hby d4_19) rfl rfl k) ?_
  refine Goes.step (B := T8.setTop (mkF m 22 #[.val (.ref a0r), .val (.ref p1), .val (.ref p2), .val (.double p3), .second, .val (.int p4), .val (.int p5)] [(.int p4), (.ref a0r)])) (fun _ k => XS.iload X8.here hx rfl (hb hby d4_20) rfl k) ?_
  have f9 := (f6.wr W8)
  have f10 := (((Fr_start.other W2 (Or.inr (slot_ne (Or.inr (hw _ (List.mem_of_getElem? (i := 42) rfl))) (Or.inr (hw _ (List.mem_of_getElem? (i := 36) rfl))) (by decide) (t := .int) (t' := (.object "java/lang/String")) (by decide) (by decide)))).other W5 (Or.inr (slot_ne (Or.inr (hw _ (List.mem_of_getElem? (i := 42) rfl))) (Or.inr (hw _ (List.mem_of_getElem? (i := 38) rfl))) (by decide) (t := .int) (t' := (.object "com/example/errantry/errantry/workload/Position")) (by decide) (by decide)))).other W8 (Or.inr (slot_ne (Or.inr (hw _ (List.mem_of_getElem? (i := 42) rfl))) (Or.inr (hw _ (List.mem_of_getElem? (i := 40) rfl))) (by decide) (t := .int) (t' := .double) (by decide) (by decide))))
  obtain ⟨T11, h11, X11, e11, W11, st11⟩ := putF X8 hx hZ hown (host := "") (Or.inl (hw _ (List.mem_of_getElem? (i := 41) rfl))) Via.refl e8 f10 f9 (Or.inr ⟨(hw _ (List.mem_of_getElem? (i := 42) rfl)), rfl, hnm⟩) (hw _ (List.mem_of_getElem? (i := 3) rfl)) (ty := .int) (by decide) rfl rfl (g := (mkF m 22 #[.val (.ref a0r), .val (.ref p1), .val (.ref p2), .val (.double p3), .second, .val (.int p4), .val (.int p5)] [(.int p4), (.ref a0r)])) rfl rfl (hb hby d4_22)
  have Fw11 := f10.same W11
  have N11 := Fr.snoc X11 N8 gr
  have O_11 := O_8.wr W11 gr
  have K_11 := K_8.wr W11 (Or.inl (List.mem_of_getElem? (i := 0) rfl))
  refine Goes.step (B := T11.setTop (mkF m 25 #[.val (.ref a0r), .val (.ref p1), .val (.ref p2), .val (.double p3), .second, .val (.int p4), .val (.int p5)] [])) st11 ?_
  refine Goes.step (B := T11.setTop (mkF m 26 #[.val (.ref a0r), .val (.ref p1), .val (.ref p2), .val (.double p3), .second, .val (.int p4), .val (.int p5)] [(.ref a0r)])) (fun _ k => XS.aloadN X11.here hx rfl (hb hby d4_25) rfl rfl k) ?_
  refine Goes.step (B := T11.setTop (mkF m 28 #[.val (.ref a0r), .val (.ref p1), .val (.ref p2), .val (.double p3), .second, .val (.int p4), .val (.int p5)] [(.int p5), (.ref a0r)])) (fun _ k => XS.iload X11.here hx rfl (hb hby d4_26) rfl k) ?_
  have f12 := (f9.wr W11)
  have f13 := ((((Fr_end.other W2 (Or.inr (slot_ne (Or.inr (hw _ (List.mem_of_getElem? (i := 44) rfl))) (Or.inr (hw _ (List.mem_of_getElem? (i := 36) rfl))) (by decide) (t := .int) (t' := (.object "java/lang/String")) (by decide) (by decide)))).other W5 (Or.inr (slot_ne (Or.inr (hw _ (List.mem_of_getElem? (i := 44) rfl))) (Or.inr (hw _ (List.mem_of_getElem? (i := 38) rfl))) (by decide) (t := .int) (t' := (.object "com/example/errantry/errantry/workload/Position")) (by decide) (by decide)))).other W8 (Or.inr (slot_ne (Or.inr (hw _ (List.mem_of_getElem? (i := 44) rfl))) (Or.inr (hw _ (List.mem_of_getElem? (i := 40) rfl))) (by decide) (t := .int) (t' := .double) (by decide) (by decide)))).other W11 (Or.inr (slot_ne (Or.inr (hw _ (List.mem_of_getElem? (i := 44) rfl))) (Or.inr (hw _ (List.mem_of_getElem? (i := 42) rfl))) (by decide) (t := .int) (t' := .int) (by decide) (by decide))))
  obtain ⟨T14, h14, X14, e14, W14, st14⟩ := putF X11 hx hZ hown (host := "") (Or.inl (hw _ (List.mem_of_getElem? (i := 43) rfl))) Via.refl e11 f13 f12 (Or.inr ⟨(hw _ (List.mem_of_getElem? (i := 44) rfl)), rfl, hnm⟩) (hw _ (List.mem_of_getElem? (i := 3) rfl)) (ty := .int) (by decide) rfl rfl (g := (mkF m 28 #[.val (.ref a0r), .val (.ref p1), .val (.ref p2), .val (.double p3), .second, .val (.int p4), .val (.int p5)] [(.int p5), (.ref a0r)])) rfl rfl (hb hby d4_28)
  have Fw14 := f13.same W14
  have N14 := Fr.snoc X14 N11 gr
  have O_14 := O_11.wr W14 gr
  have K_14 := K_11.wr W14 (Or.inl (List.mem_of_getElem? (i := 0) rfl))
  refine Goes.step (B := T14.setTop (mkF m 31 #[.val (.ref a0r), .val (.ref p1), .val (.ref p2), .val (.double p3), .second, .val (.int p4), .val (.int p5)] [])) st14 ?_
  have f15 := (f12.wr W14)
  have f16 := ((((Fw2.other W5 (Or.inr (slot_ne (Or.inr (hw _ (List.mem_of_getElem? (i := 36) rfl))) (Or.inr (hw _ (List.mem_of_getElem? (i := 38) rfl))) (by decide) (t := (.object "java/lang/String")) (t' := (.object "com/example/errantry/errantry/workload/Position")) (by decide) (by decide)))).other W8 (Or.inr (slot_ne (Or.inr (hw _ (List.mem_of_getElem? (i := 36) rfl))) (Or.inr (hw _ (List.mem_of_getElem? (i := 40) rfl))) (by decide) (t := (.object "java/lang/String")) (t' := .double) (by decide) (by decide)))).other W11 (Or.inr (slot_ne (Or.inr (hw _ (List.mem_of_getElem? (i := 36) rfl))) (Or.inr (hw _ (List.mem_of_getElem? (i := 42) rfl))) (by decide) (t := (.object "java/lang/String")) (t' := .int) (by decide) (by decide)))).other W14 (Or.inr (slot_ne (Or.inr (hw _ (List.mem_of_getElem? (i := 36) rfl))) (Or.inr (hw _ (List.mem_of_getElem? (i := 44) rfl))) (by decide) (t := (.object "java/lang/String")) (t' := .int) (by decide) (by decide))))
  have f17 := (((Fw5.other W8 (Or.inr (slot_ne (Or.inr (hw _ (List.mem_of_getElem? (i := 38) rfl))) (Or.inr (hw _ (List.mem_of_getElem? (i := 40) rfl))) (by decide) (t := (.object "com/example/errantry/errantry/workload/Position")) (t' := .double) (by decide) (by decide)))).other W11 (Or.inr (slot_ne (Or.inr (hw _ (List.mem_of_getElem? (i := 38) rfl))) (Or.inr (hw _ (List.mem_of_getElem? (i := 42) rfl))) (by decide) (t := (.object "com/example/errantry/errantry/workload/Position")) (t' := .int) (by decide) (by decide)))).other W14 (Or.inr (slot_ne (Or.inr (hw _ (List.mem_of_getElem? (i := 38) rfl))) (Or.inr (hw _ (List.mem_of_getElem? (i := 44) rfl))) (by decide) (t := (.object "com/example/errantry/errantry/workload/Position")) (t' := .int) (by decide) (by decide))))
  have f18 := ((Fw8.other W11 (Or.inr (slot_ne (Or.inr (hw _ (List.mem_of_getElem? (i := 40) rfl))) (Or.inr (hw _ (List.mem_of_getElem? (i := 42) rfl))) (by decide) (t := .double) (t' := .int) (by decide) (by decide)))).other W14 (Or.inr (slot_ne (Or.inr (hw _ (List.mem_of_getElem? (i := 40) rfl))) (Or.inr (hw _ (List.mem_of_getElem? (i := 44) rfl))) (by decide) (t := .double) (t' := .int) (by decide) (by decide))))
  have f19 := (Fw11.other W14 (Or.inr (slot_ne (Or.inr (hw _ (List.mem_of_getElem? (i := 42) rfl))) (Or.inr (hw _ (List.mem_of_getElem? (i := 44) rfl))) (by decide) (t := .int) (t' := .int) (by decide) (by decide))))
  exact Goes.retV X14 hx e14 Bd.returns hlk (hb hby d4_31) (by decide) (by decide) (⟨rfl, N14, K_14, f15, f16, f17, f18, f19, Fw14⟩)
theorem d5_0 : decode prog_61_method_2_code 0 = .ok (.aload_n 0, 1) := by decide +kernel
theorem d5_1 : decode prog_61_method_2_code 1 = .ok (.getfield 21, 3) := by decide +kernel
theorem d5_4 : decode prog_61_method_2_code 4 = .ok (.iload_n 1, 1) := by decide +kernel
theorem d5_5 : decode prog_61_method_2_code 5 = .ok (.if_icmp .gt 15, 3) := by decide +kernel
theorem d5_8 : decode prog_61_method_2_code 8 = .ok (.iload_n 1, 1) := by decide +kernel
theorem d5_9 : decode prog_61_method_2_code 9 = .ok (.aload_n 0, 1) := by decide +kernel
theorem d5_10 : decode prog_61_method_2_code 10 = .ok (.getfield 25, 3) := by decide +kernel
theorem d5_13 : decode prog_61_method_2_code 13 = .ok (.if_icmp .gt 7, 3) := by decide +kernel
theorem d5_16 : decode prog_61_method_2_code 16 = .ok (.iconst 1, 1) := by decide +kernel
theorem d5_17 : decode prog_61_method_2_code 17 = .ok (.goto 4, 3) := by decide +kernel
theorem d5_21 : decode prog_61_method_2_code 21 = .ok (.ireturn, 1) := by decide +kernel
theorem ef_rmo1 (m : MethodId) (x0 : Addr) (x1 : Int32) : entryFrame m #[(.ref x0), (.int x1)] 2 = mkF m 0 #[.val (.ref x0), .val (.int x1)] [] := by first | (simp [entryFrame, mkF, argsToLocals, Value.category]; done) | rfl
def Qo1 (Z : State) (a1 : Addr) (p1 : Int32) (sv : Int32) (ev : Int32) (h0 : Heap) (n0 : Nat) (v : Option Value) (h : Heap) (L : List Loc) : Prop := v = some (.int (1 : Int32)) ∧ Fr n0 L ∧ h = h0
set_option maxRecDepth 65536 in
set_option maxHeartbeats 40000000 in
theorem rmo1 (l : Launch) (Z : State) (a0 : Array Value) (hw : ∀ d ∈ tables_1, d.before a0 Z = true) (ws : List Jvm.Cond) (a1 : Addr) (p1 : Int32) (sv : Int32) (ev : Int32) (h0 : Heap) (n0 : Nat) (O0 : Old Z n0 h0) (h1 : ¬ p1 < sv) (h2 : ¬ ev < p1) (Fs : Fld Z h0 a1 "com/example/errantry/errantry/workload/Task" "start" "I" (.int sv)) (Fe : Fld Z h0 a1 "com/example/errantry/errantry/workload/Task" "end" "I" (.int ev)) :
    MetFree l (⟨"com/example/errantry/errantry/workload/Task", "isOpenIn", "(I)Z"⟩ : MethodName) (head1 (Jvm.Cond.code (⟨"com/example/errantry/errantry/workload/Task", "isOpenIn", "(I)Z"⟩ : MethodName) prog_61_method_2_code 2 (some .boolean) :: ws) ({ frames := 0, cells := 0, slots := 0, locals := 0 } : Room)) (fun a U => a = #[(.ref a1), (.int p1)] ∧ Z.Warmed39 U.vm ∧ U.heap = h0) (fun _ _ _ _ _ => True) (fun _ U o U' => ∃ v L, o = .returned v ∧ Qo1 Z a1 p1 sv ev h0 n0 v U'.heap L ∧ FrameEnd U o U' L ({ frames := 0, cells := 0, slots := 0, locals := 0 } : Room).cells ({ frames := 0, cells := 0, slots := 0, locals := 0 } : Room).slots) := by
  refine MetFree.of_bodySF (plainFor_of_name pn_Task) hisR ?_
  intro p e s m args below meth c s₁ Bd hml0 hP hK
  obtain ⟨rfl, hZ, hh⟩ := hP
  have hx := Bd.exec
  have hby := Bd.bytes
  have hlk : meth.locks = false := BodyLoose.notSynchronized Bd
  have hml : c.maxLocals = 2 := hml0
  have hown : s.vm.findClass "com/example/errantry/errantry/workload/Task" = some m.cls := findClass_of_methodNamed Bd.named
  have hnm := (name_of_methodNamed Bd.named Bd.method).1
  have X0 : Stand p l e ({ frames := 0, cells := 0, slots := 0, locals := 0 } : Room) s m #[(.ref a1), (.int p1)] below meth c s₁ [] 0 0 := Stand.of_body Bd
  have e0 : s₁.heap = h0 := by rw [← hh, Bd.state]; rfl
  have N0 := Fr.nil n0
  show Goes p e below s (Qo1 Z a1 p1 sv ev h0 n0) ({ frames := 0, cells := 0, slots := 0, locals := 0 } : Room).cells ({ frames := 0, cells := 0, slots := 0, locals := 0 } : Room).slots (s₁.setTop (entryFrame m #[(.ref a1), (.int p1)] 2))
  refine Goes.enter (g' := (mkF m 0 #[.val (.ref a1), .val (.int p1)] [])) (ef_rmo1 m a1 p1) ?_
  refine Goes.step (B := s₁.setTop (mkF m 1 #[.val (.ref a1), .val (.int p1)] [(.ref a1)])) (fun _ k => XS.aloadN X0.here hx rfl (hb hby d5_0) rfl rfl k) ?_
  obtain ⟨T1, X1, e1, st1⟩ := getF X0 hx hZ hown (host := "") (Or.inl (hw _ (List.mem_of_getElem? (i := 41) rfl))) Via.refl e0 Fs (g := (mkF m 1 #[.val (.ref a1), .val (.int p1)] [(.ref a1)])) rfl rfl (hb hby d5_1)
  refine Goes.step (B := T1.setTop (mkF m 4 #[.val (.ref a1), .val (.int p1)] [(.int sv)])) st1 ?_
  refine Goes.step (B := T1.setTop (mkF m 5 #[.val (.ref a1), .val (.int p1)] [(.int p1), (.int sv)])) (fun _ k => XS.iloadN X1.here hx rfl (hb hby d5_4) rfl k) ?_
  refine Goes.step (B := T1.setTop (mkF m 8 #[.val (.ref a1), .val (.int p1)] [])) (fun _ k => XS.icmpNo X1.here hx rfl (hb hby d5_5) rfl (flt h1).2.2.1 k) ?_
  refine Goes.step (B := T1.setTop (mkF m 9 #[.val (.ref a1), .val (.int p1)] [(.int p1)])) (fun _ k => XS.iloadN X1.here hx rfl (hb hby d5_8) rfl k) ?_
  refine Goes.step (B := T1.setTop (mkF m 10 #[.val (.ref a1), .val (.int p1)] [(.ref a1), (.int p1)])) (fun _ k => XS.aloadN X1.here hx rfl (hb hby d5_9) rfl rfl k) ?_
  obtain ⟨T2, X2, e2, st2⟩ := getF X1 hx hZ hown (host := "") (Or.inl (hw _ (List.mem_of_getElem? (i := 43) rfl))) Via.refl e1 Fe (g := (mkF m 10 #[.val (.ref a1), .val (.int p1)] [(.ref a1), (.int p1)])) rfl rfl (hb hby d5_10)
  refine Goes.step (B := T2.setTop (mkF m 13 #[.val (.ref a1), .val (.int p1)] [(.int ev), (.int p1)])) st2 ?_
  refine Goes.step (B := T2.setTop (mkF m 16 #[.val (.ref a1), .val (.int p1)] [])) (fun _ k => XS.icmpNo X2.here hx rfl (hb hby d5_13) rfl (flt h2).2.2.1 k) ?_
  refine Goes.step (B := T2.setTop (mkF m 17 #[.val (.ref a1), .val (.int p1)] [(.int (1 : Int32))])) (fun _ k => XS.iconst X2.here hx rfl (hb hby d5_16) k) ?_
  refine Goes.step (B := T2.setTop (mkF m 21 #[.val (.ref a1), .val (.int p1)] [(.int (1 : Int32))])) (fun _ k => XS.goto X2.here hx rfl (pc0 := 17) (pc' := 21) rfl (hb hby d5_17) (by decide) (by decide) k) ?_
  exact Goes.retN X2 hx e2 (t := .boolean) Bd.returns (by simp) hlk (hb hby d5_21) (by decide) (by decide) (⟨rfl, N0, rfl⟩)
theorem d5_20 : decode prog_61_method_2_code 20 = .ok (.iconst 0, 1) := by decide +kernel
theorem ef_rmoA (m : MethodId) (x0 : Addr) (x1 : Int32) : entryFrame m #[(.ref x0), (.int x1)] 2 = mkF m 0 #[.val (.ref x0), .val (.int x1)] [] := by first | (simp [entryFrame, mkF, argsToLocals, Value.category]; done) | rfl
def QoA (Z : State) (a1 : Addr) (p1 : Int32) (sv : Int32) (ev : Int32) (h0 : Heap) (n0 : Nat) (v : Option Value) (h : Heap) (L : List Loc) : Prop := v = some (.int (0 : Int32)) ∧ Fr n0 L ∧ h = h0
set_option maxRecDepth 65536 in
set_option maxHeartbeats 40000000 in
theorem rmoA (l : Launch) (Z : State) (a0 : Array Value) (hw : ∀ d ∈ tables_1, d.before a0 Z = true) (ws : List Jvm.Cond) (a1 : Addr) (p1 : Int32) (sv : Int32) (ev : Int32) (h0 : Heap) (n0 : Nat) (O0 : Old Z n0 h0) (h1 : p1 < sv) (Fs : Fld Z h0 a1 "com/example/errantry/errantry/workload/Task" "start" "I" (.int sv)) (Fe : Fld Z h0 a1 "com/example/errantry/errantry/workload/Task" "end" "I" (.int ev)) :
    MetFree l (⟨"com/example/errantry/errantry/workload/Task", "isOpenIn", "(I)Z"⟩ : MethodName) (head1 (Jvm.Cond.code (⟨"com/example/errantry/errantry/workload/Task", "isOpenIn", "(I)Z"⟩ : MethodName) prog_61_method_2_code 2 (some .boolean) :: ws) ({ frames := 0, cells := 0, slots := 0, locals := 0 } : Room)) (fun a U => a = #[(.ref a1), (.int p1)] ∧ Z.Warmed39 U.vm ∧ U.heap = h0) (fun _ _ _ _ _ => True) (fun _ U o U' => ∃ v L, o = .returned v ∧ QoA Z a1 p1 sv ev h0 n0 v U'.heap L ∧ FrameEnd U o U' L ({ frames := 0, cells := 0, slots := 0, locals := 0 } : Room).cells ({ frames := 0, cells := 0, slots := 0, locals := 0 } : Room).slots) := by
  refine MetFree.of_bodySF (plainFor_of_name pn_Task) hisR ?_
  intro p e s m args below meth c s₁ Bd hml0 hP hK
  obtain ⟨rfl, hZ, hh⟩ := hP
  have hx := Bd.exec
  have hby := Bd.bytes
  have hlk : meth.locks = false := BodyLoose.notSynchronized Bd
  have hml : c.maxLocals = 2 := hml0
  have hown : s.vm.findClass "com/example/errantry/errantry/workload/Task" = some m.cls := findClass_of_methodNamed Bd.named
  have hnm := (name_of_methodNamed Bd.named Bd.method).1
  have X0 : Stand p l e ({ frames := 0, cells := 0, slots := 0, locals := 0 } : Room) s m #[(.ref a1), (.int p1)] below meth c s₁ [] 0 0 := Stand.of_body Bd
  have e0 : s₁.heap = h0 := by rw [← hh, Bd.state]; rfl
  have N0 := Fr.nil n0
  show Goes p e below s (QoA Z a1 p1 sv ev h0 n0) ({ frames := 0, cells := 0, slots := 0, locals := 0 } : Room).cells ({ frames := 0, cells := 0, slots := 0, locals := 0 } : Room).slots (s₁.setTop (entryFrame m #[(.ref a1), (.int p1)] 2))
  refine Goes.enter (g' := (mkF m 0 #[.val (.ref a1), .val (.int p1)] [])) (ef_rmoA m a1 p1) ?_
  refine Goes.step (B := s₁.setTop (mkF m 1 #[.val (.ref a1), .val (.int p1)] [(.ref a1)])) (fun _ k => XS.aloadN X0.here hx rfl (hb hby d5_0) rfl rfl k) ?_
  obtain ⟨T1, X1, e1, st1⟩ := getF X0 hx hZ hown (host := "") (Or.inl (hw _ (List.mem_of_getElem? (i := 41) rfl))) Via.refl e0 Fs (g := (mkF m 1 #[.val (.ref a1), .val (.int p1)] [(.ref a1)])) rfl rfl (hb hby d5_1)
  refine Goes.step (B := T1.setTop (mkF m 4 #[.val (.ref a1), .val (.int p1)] [(.int sv)])) st1 ?_
  refine Goes.step (B := T1.setTop (mkF m 5 #[.val (.ref a1), .val (.int p1)] [(.int p1), (.int sv)])) (fun _ k => XS.iloadN X1.here hx rfl (hb hby d5_4) rfl k) ?_
  refine Goes.step (B := T1.setTop (mkF m 20 #[.val (.ref a1), .val (.int p1)] [])) (fun _ k => XS.icmpYes X1.here hx rfl (pc0 := 5) (pc' := 20) rfl (hb hby d5_5) rfl (tlt h1).2.2.1 (by decide) (by decide) k) ?_
  refine Goes.step (B := T1.setTop (mkF m 21 #[.val (.ref a1), .val (.int p1)] [(.int (0 : Int32))])) (fun _ k => XS.iconst X1.here hx rfl (hb hby d5_20) k) ?_
  exact Goes.retN X1 hx e1 (t := .boolean) Bd.returns (by simp) hlk (hb hby d5_21) (by decide) (by decide) (⟨rfl, N0, rfl⟩)
theorem ef_rmoB (m : MethodId) (x0 : Addr) (x1 : Int32) : entryFrame m #[(.ref x0), (.int x1)] 2 = mkF m 0 #[.val (.ref x0), .val (.int x1)] [] := by first | (simp [entryFrame, mkF, argsToLocals, Value.category]; done) | rfl
def QoB (Z : State) (a1 : Addr) (p1 : Int32) (sv : Int32) (ev : Int32) (h0 : Heap) (n0 : Nat) (v : Option Value) (h : Heap) (L : List Loc) : Prop := v = some (.int (0 : Int32)) ∧ Fr n0 L ∧ h = h0
set_option maxRecDepth 65536 in
set_option maxHeartbeats 40000000 in
theorem rmoB (l : Launch) (Z : State) (a0 : Array Value) (hw : ∀ d ∈ tables_1, d.before a0 Z = true) (ws : List Jvm.Cond) (a1 : Addr) (p1 : Int32) (sv : Int32) (ev : Int32) (h0 : Heap) (n0 : Nat) (O0 : Old Z n0 h0) (h1 : ¬ p1 < sv) (h2 : ev < p1) (Fs : Fld Z h0 a1 "com/example/errantry/errantry/workload/Task" "start" "I" (.int sv)) (Fe : Fld Z h0 a1 "com/example/errantry/errantry/workload/Task" "end" "I" (.int ev)) :
    MetFree l (⟨"com/example/errantry/errantry/workload/Task", "isOpenIn", "(I)Z"⟩ : MethodName) (head1 (Jvm.Cond.code (⟨"com/example/errantry/errantry/workload/Task", "isOpenIn", "(I)Z"⟩ : MethodName) prog_61_method_2_code 2 (some .boolean) :: ws) ({ frames := 0, cells := 0, slots := 0, locals := 0 } : Room)) (fun a U => a = #[(.ref a1), (.int p1)] ∧ Z.Warmed39 U.vm ∧ U.heap = h0) (fun _ _ _ _ _ => True) (fun _ U o U' => ∃ v L, o = .returned v ∧ QoB Z a1 p1 sv ev h0 n0 v U'.heap L ∧ FrameEnd U o U' L ({ frames := 0, cells := 0, slots := 0, locals := 0 } : Room).cells ({ frames := 0, cells := 0, slots := 0, locals := 0 } : Room).slots) := by
  refine MetFree.of_bodySF (plainFor_of_name pn_Task) hisR ?_
  intro p e s m args below meth c s₁ Bd hml0 hP hK
  obtain ⟨rfl, hZ, hh⟩ := hP
  have hx := Bd.exec
  have hby := Bd.bytes
  have hlk : meth.locks = false := BodyLoose.notSynchronized Bd
  have hml : c.maxLocals = 2 := hml0
  have hown : s.vm.findClass "com/example/errantry/errantry/workload/Task" = some m.cls := findClass_of_methodNamed Bd.named
  have hnm := (name_of_methodNamed Bd.named Bd.method).1
  have X0 : Stand p l e ({ frames := 0, cells := 0, slots := 0, locals := 0 } : Room) s m #[(.ref a1), (.int p1)] below meth c s₁ [] 0 0 := Stand.of_body Bd
  have e0 : s₁.heap = h0 := by rw [← hh, Bd.state]; rfl
  have N0 := Fr.nil n0
  show Goes p e below s (QoB Z a1 p1 sv ev h0 n0) ({ frames := 0, cells := 0, slots := 0, locals := 0 } : Room).cells ({ frames := 0, cells := 0, slots := 0, locals := 0 } : Room).slots (s₁.setTop (entryFrame m #[(.ref a1), (.int p1)] 2))
  refine Goes.enter (g' := (mkF m 0 #[.val (.ref a1), .val (.int p1)] [])) (ef_rmoB m a1 p1) ?_
  refine Goes.step (B := s₁.setTop (mkF m 1 #[.val (.ref a1), .val (.int p1)] [(.ref a1)])) (fun _ k => XS.aloadN X0.here hx rfl (hb hby d5_0) rfl rfl k) ?_
  obtain ⟨T1, X1, e1, st1⟩ := getF X0 hx hZ hown (host := "") (Or.inl (hw _ (List.mem_of_getElem? (i := 41) rfl))) Via.refl e0 Fs (g := (mkF m 1 #[.val (.ref a1), .val (.int p1)] [(.ref a1)])) rfl rfl (hb hby d5_1)
  refine Goes.step (B := T1.setTop (mkF m 4 #[.val (.ref a1), .val (.int p1)] [(.int sv)])) st1 ?_
  refine Goes.step (B := T1.setTop (mkF m 5 #[.val (.ref a1), .val (.int p1)] [(.int p1), (.int sv)])) (fun _ k => XS.iloadN X1.here hx rfl (hb hby d5_4) rfl k) ?_
  refine Goes.step (B := T1.setTop (mkF m 8 #[.val (.ref a1), .val (.int p1)] [])) (fun _ k => XS.icmpNo X1.here hx rfl (hb hby d5_5) rfl (flt h1).2.2.1 k) ?_
  refine Goes.step (B := T1.setTop (mkF m 9 #[.val (.ref a1), .val (.int p1)] [(.int p1)])) (fun _ k => XS.iloadN X1.here hx rfl (hb hby d5_8) rfl k) ?_
  refine Goes.step (B := T1.setTop (mkF m 10 #[.val (.ref a1), .val (.int p1)] [(.ref a1), (.int p1)])) (fun _ k => XS.aloadN X1.here hx rfl (hb hby d5_9) rfl rfl k) ?_
  obtain ⟨T2, X2, e2, st2⟩ := getF X1 hx hZ hown (host := "") (Or.inl (hw _ (List.mem_of_getElem? (i := 43) rfl))) Via.refl e1 Fe (g := (mkF m 10 #[.val (.ref a1), .val (.int p1)] [(.ref a1), (.int p1)])) rfl rfl (hb hby d5_10)
  refine Goes.step (B := T2.setTop (mkF m 13 #[.val (.ref a1), .val (.int p1)] [(.int ev), (.int p1)])) st2 ?_
  refine Goes.step (B := T2.setTop (mkF m 20 #[.val (.ref a1), .val (.int p1)] [])) (fun _ k => XS.icmpYes X2.here hx rfl (pc0 := 13) (pc' := 20) rfl (hb hby d5_13) rfl (tlt h2).2.2.1 (by decide) (by decide) k) ?_
  refine Goes.step (B := T2.setTop (mkF m 21 #[.val (.ref a1), .val (.int p1)] [(.int (0 : Int32))])) (fun _ k => XS.iconst X2.here hx rfl (hb hby d5_20) k) ?_
  exact Goes.retN X2 hx e2 (t := .boolean) Bd.returns (by simp) hlk (hb hby d5_21) (by decide) (by decide) (⟨rfl, N0, rfl⟩)
theorem own_wS {Z : State} {a0 : Array Value} (hw : ∀ d ∈ tables_1, d.before a0 Z = true) : ∀ a ∈ Bundle.stringAtoms, a.before a0 Z = true := fun d hd => by
  simp only [Bundle.stringAtoms, List.mem_cons, List.not_mem_nil, or_false] at hd
  rcases hd with rfl | rfl | rfl | rfl | rfl | rfl | rfl
  · exact (hw _ (List.mem_of_getElem? (i := 6) rfl))
  · exact (hw _ (List.mem_of_getElem? (i := 7) rfl))
  · exact (hw _ (List.mem_of_getElem? (i := 8) rfl))
  · exact (hw _ (List.mem_of_getElem? (i := 9) rfl))
  · exact (hw _ (List.mem_of_getElem? (i := 10) rfl))
  · exact (hw _ (List.mem_of_getElem? (i := 11) rfl))
  · exact (hw _ (List.mem_of_getElem? (i := 12) rfl))
theorem pd_1 : parseMethodDescriptor "(DD)V" = some ⟨[.double, .double], none⟩ := by decide +kernel
theorem pd_2 : parseMethodDescriptor "(Ljava/lang/String;Lcom/example/errantry/errantry/workload/Position;DII)V" = some ⟨[(.object "java/lang/String"), (.object "com/example/errantry/errantry/workload/Position"), .double, .int, .int], none⟩ := by decide +kernel
theorem pd_3 : parseMethodDescriptor "(I)Z" = some ⟨[.int], some .boolean⟩ := by decide +kernel
theorem pn_TaskIsOpenInPinLaw : plainName "com/example/errantry/errantry/workload/TaskIsOpenInPinLaw" = true := by first | (simp [plainName, overriddenIn]; done) | decide +kernel
theorem ef_rm0 (m : MethodId) (x0 : Int32) (x1 : Int32) (x2 : Int32) : entryFrame m #[(.int x0), (.int x1), (.int x2)] maxLocals = mkF m 0 #[.val (.int x0), .val (.int x1), .val (.int x2), .unset, .unset, .unset, .unset, .unset, .unset, .unset, .unset] [] := by first | (simp [entryFrame, mkF, argsToLocals, Value.category, maxLocals]; done) | rfl
def Q0 (Z : State) (i0 : Int32) (i1 : Int32) (i2 : Int32) (h0 : Heap) (n0 : Nat) (v : Option Value) (h : Heap) (L : List Loc) : Prop := v = some (.int 1) ∧ Fr n0 L
set_option maxRecDepth 65536 in
set_option maxHeartbeats 40000000 in
theorem rm0 (l : Launch) (Z : State) (a0 : Array Value) (hw : ∀ d ∈ tables_1, d.before a0 Z = true) (ws : List Jvm.Cond) (i0 : Int32) (i1 : Int32) (i2 : Int32) (h0 : Heap) (n0 : Nat) (O0 : Old Z n0 h0) :
    MetFree l x (head1 (Jvm.Cond.code x code maxLocals ret :: ws) room_1) (fun a U => a = #[(.int i0), (.int i1), (.int i2)] ∧ Z.Warmed39 U.vm ∧ U.heap = h0) (fun _ _ _ _ _ => True) (fun _ U o U' => ∃ v L, o = .returned v ∧ Q0 Z i0 i1 i2 h0 n0 v U'.heap L ∧ ReturnedEndW U o U' L room_1.cells room_1.slots) := by
  refine MetFree.of_bodySF (plainFor_of_name pn_TaskIsOpenInPinLaw) hisR ?_
  intro p e s m args below meth c s₁ Bd hml0 hP hK
  obtain ⟨rfl, hZ, hh⟩ := hP
  have hx := Bd.exec
  have hby := Bd.bytes
  have hlk : meth.locks = false := BodyLoose.notSynchronized Bd
  have hml : c.maxLocals = 11 := hml0
  have hown : s.vm.findClass "com/example/errantry/errantry/workload/TaskIsOpenInPinLaw" = some m.cls := findClass_of_methodNamed Bd.named
  have hnm := (name_of_methodNamed Bd.named Bd.method).1
  have X0 : Stand p l e room_1 (s.setVm s.vm) m #[(.int i0), (.int i1), (.int i2)] below meth c s₁ [] 0 0 := Stand.of_body Bd
  have e0 : s₁.heap = h0 := by rw [← hh, Bd.state]; rfl
  have N0 := Fr.nil n0
  have hS0 : s.Since s.vm h0.size := (State.WarmedH.refl s).since _
  show GoesW p e below s (Q0 Z i0 i1 i2 h0 n0) room_1.cells room_1.slots (s₁.setTop (entryFrame m #[(.int i0), (.int i1), (.int i2)] maxLocals))
  refine GoesW.enter (g' := (mkF m 0 #[.val (.int i0), .val (.int i1), .val (.int i2), .unset, .unset, .unset, .unset, .unset, .unset, .unset, .unset] [])) (ef_rm0 m i0 i1 i2) ?_
  refine GoesW.step (B := s₁.setTop (mkF m 1 #[.val (.int i0), .val (.int i1), .val (.int i2), .unset, .unset, .unset, .unset, .unset, .unset, .unset, .unset] [(.int i0)])) (fun _ k => XS.iloadN X0.here hx rfl (hb hby at_0) rfl k) ?_
  refine GoesW.step (B := s₁.setTop (mkF m 3 #[.val (.int i0), .val (.int i1), .val (.int i2), .unset, .unset, .unset, .unset, .unset, .unset, .unset, .unset] [(.int (2147483647 : Int32)), (.int i0)])) (X0.ldcInt hx hown (mvT hZ (hw _ (List.mem_of_getElem? (i := 0) rfl))) (g := (mkF m 1 #[.val (.int i0), .val (.int i1), .val (.int i2), .unset, .unset, .unset, .unset, .unset, .unset, .unset, .unset] [(.int i0)])) rfl (hb hby at_1)) ?_
  refine GoesW.step (B := s₁.setTop (mkF m 4 #[.val (.int i0), .val (.int i1), .val (.int i2), .unset, .unset, .unset, .unset, .unset, .unset, .unset, .unset] [(.int (i0 &&& (2147483647 : Int32)))])) (fun _ k => XS.iand X0.here hx rfl (hb hby at_3) rfl k) ?_
  obtain ⟨zs, hzs⟩ : ∃ z, z = (i0 &&& (2147483647 : Int32)) := ⟨_, rfl⟩
  rw [← hzs]
  have z0 := own_st hzs
  refine GoesW.step (B := s₁.setTop (mkF m 5 #[.val (.int i0), .val (.int i1), .val (.int i2), .val (.int zs), .unset, .unset, .unset, .unset, .unset, .unset, .unset] [])) (fun _ k => XS.istoreN X0.here hx rfl (hb hby at_4) rfl (l' := #[.val (.int i0), .val (.int i1), .val (.int i2), .val (.int zs), .unset, .unset, .unset, .unset, .unset, .unset, .unset]) rfl k) ?_
  refine GoesW.step (B := s₁.setTop (mkF m 8 #[.val (.int i0), .val (.int i1), .val (.int i2), .val (.int zs), .unset, .unset, .unset, .unset, .unset, .unset, .unset] [(.long (2147483647 : Int64))])) (X0.ldc2Long hx hown (mvT hZ (hw _ (List.mem_of_getElem? (i := 1) rfl))) (g := (mkF m 5 #[.val (.int i0), .val (.int i1), .val (.int i2), .val (.int zs), .unset, .unset, .unset, .unset, .unset, .unset, .unset] [])) rfl (hb hby at_5)) ?_
  refine GoesW.step (B := s₁.setTop (mkF m 9 #[.val (.int i0), .val (.int i1), .val (.int i2), .val (.int zs), .unset, .unset, .unset, .unset, .unset, .unset, .unset] [(.int zs), (.long (2147483647 : Int64))])) (fun _ k => XS.iloadN X0.here hx rfl (hb hby at_8) rfl k) ?_
  refine GoesW.step (B := s₁.setTop (mkF m 10 #[.val (.int i0), .val (.int i1), .val (.int i2), .val (.int zs), .unset, .unset, .unset, .unset, .unset, .unset, .unset] [(.long (zs.toInt64)), (.long (2147483647 : Int64))])) (fun _ k => XS.i2l X0.here hx rfl (hb hby at_9) rfl k) ?_
  refine GoesW.step (B := s₁.setTop (mkF m 11 #[.val (.int i0), .val (.int i1), .val (.int i2), .val (.int zs), .unset, .unset, .unset, .unset, .unset, .unset, .unset] [(.long ((2147483647 : Int64) - (zs.toInt64)))])) (fun _ k => XS.lsub X0.here hx rfl (hb hby at_10) rfl k) ?_
  refine GoesW.step (B := s₁.setTop (mkF m 12 #[.val (.int i0), .val (.int i1), .val (.int i2), .val (.int zs), .unset, .unset, .unset, .unset, .unset, .unset, .unset] [(.long (1 : Int64)), (.long ((2147483647 : Int64) - (zs.toInt64)))])) (fun _ k => XS.lconst X0.here hx rfl (hb hby at_11) k) ?_
  refine GoesW.step (B := s₁.setTop (mkF m 13 #[.val (.int i0), .val (.int i1), .val (.int i2), .val (.int zs), .unset, .unset, .unset, .unset, .unset, .unset, .unset] [(.long (((2147483647 : Int64) - (zs.toInt64)) + (1 : Int64)))])) (fun _ k => XS.ladd X0.here hx rfl (hb hby at_12) rfl k) ?_
  obtain ⟨sp, hsp⟩ : ∃ z, z = (((2147483647 : Int64) - (zs.toInt64)) + (1 : Int64)) := ⟨_, rfl⟩
  rw [← hsp]
  obtain ⟨sp1, sp2⟩ := own_sp hsp z0
  refine GoesW.step (B := s₁.setTop (mkF m 15 #[.val (.int i0), .val (.int i1), .val (.int i2), .val (.int zs), .val (.long sp), .second, .unset, .unset, .unset, .unset, .unset] [])) (fun _ k => XS.lstore X0.here hx rfl (hb hby at_13) rfl (l' := #[.val (.int i0), .val (.int i1), .val (.int i2), .val (.int zs), .val (.long sp), .second, .unset, .unset, .unset, .unset, .unset]) rfl k) ?_
  refine GoesW.step (B := s₁.setTop (mkF m 16 #[.val (.int i0), .val (.int i1), .val (.int i2), .val (.int zs), .val (.long sp), .second, .unset, .unset, .unset, .unset, .unset] [(.int zs)])) (fun _ k => XS.iloadN X0.here hx rfl (hb hby at_15) rfl k) ?_
  refine GoesW.step (B := s₁.setTop (mkF m 17 #[.val (.int i0), .val (.int i1), .val (.int i2), .val (.int zs), .val (.long sp), .second, .unset, .unset, .unset, .unset, .unset] [(.long (zs.toInt64))])) (fun _ k => XS.i2l X0.here hx rfl (hb hby at_16) rfl k) ?_
  refine GoesW.step (B := s₁.setTop (mkF m 18 #[.val (.int i0), .val (.int i1), .val (.int i2), .val (.int zs), .val (.long sp), .second, .unset, .unset, .unset, .unset, .unset] [(.int i1), (.long (zs.toInt64))])) (fun _ k => XS.iloadN X0.here hx rfl (hb hby at_17) rfl k) ?_
  refine GoesW.step (B := s₁.setTop (mkF m 19 #[.val (.int i0), .val (.int i1), .val (.int i2), .val (.int zs), .val (.long sp), .second, .unset, .unset, .unset, .unset, .unset] [(.long (i1.toInt64)), (.long (zs.toInt64))])) (fun _ k => XS.i2l X0.here hx rfl (hb hby at_18) rfl k) ?_
  refine GoesW.step (B := s₁.setTop (mkF m 22 #[.val (.int i0), .val (.int i1), .val (.int i2), .val (.int zs), .val (.long sp), .second, .unset, .unset, .unset, .unset, .unset] [(.long (2147483647 : Int64)), (.long (i1.toInt64)), (.long (zs.toInt64))])) (X0.ldc2Long hx hown (mvT hZ (hw _ (List.mem_of_getElem? (i := 1) rfl))) (g := (mkF m 19 #[.val (.int i0), .val (.int i1), .val (.int i2), .val (.int zs), .val (.long sp), .second, .unset, .unset, .unset, .unset, .unset] [(.long (i1.toInt64)), (.long (zs.toInt64))])) rfl (hb hby at_19)) ?_
  refine GoesW.step (B := s₁.setTop (mkF m 23 #[.val (.int i0), .val (.int i1), .val (.int i2), .val (.int zs), .val (.long sp), .second, .unset, .unset, .unset, .unset, .unset] [(.long ((i1.toInt64) &&& (2147483647 : Int64))), (.long (zs.toInt64))])) (fun _ k => XS.land X0.here hx rfl (hb hby at_22) rfl k) ?_
  refine GoesW.step (B := s₁.setTop (mkF m 25 #[.val (.int i0), .val (.int i1), .val (.int i2), .val (.int zs), .val (.long sp), .second, .unset, .unset, .unset, .unset, .unset] [(.long sp), (.long ((i1.toInt64) &&& (2147483647 : Int64))), (.long (zs.toInt64))])) (fun _ k => XS.lload X0.here hx rfl (hb hby at_23) rfl k) ?_
  refine GoesW.step (B := s₁.setTop (mkF m 26 #[.val (.int i0), .val (.int i1), .val (.int i2), .val (.int zs), .val (.long sp), .second, .unset, .unset, .unset, .unset, .unset] [(.long (((i1.toInt64) &&& (2147483647 : Int64)) - (((i1.toInt64) &&& (2147483647 : Int64)) / sp) * sp)), (.long (zs.toInt64))])) (fun _ k => XS.lrem X0.here hx rfl (hb hby at_25) rfl sp2 k) ?_
  refine GoesW.step (B := s₁.setTop (mkF m 27 #[.val (.int i0), .val (.int i1), .val (.int i2), .val (.int zs), .val (.long sp), .second, .unset, .unset, .unset, .unset, .unset] [(.long ((zs.toInt64) + (((i1.toInt64) &&& (2147483647 : Int64)) - (((i1.toInt64) &&& (2147483647 : Int64)) / sp) * sp)))])) (fun _ k => XS.ladd X0.here hx rfl (hb hby at_26) rfl k) ?_
  refine GoesW.step (B := s₁.setTop (mkF m 28 #[.val (.int i0), .val (.int i1), .val (.int i2), .val (.int zs), .val (.long sp), .second, .unset, .unset, .unset, .unset, .unset] [(.int ((zs.toInt64) + (((i1.toInt64) &&& (2147483647 : Int64)) - (((i1.toInt64) &&& (2147483647 : Int64)) / sp) * sp)).toInt32)])) (fun _ k => XS.l2i X0.here hx rfl (hb hby at_27) rfl k) ?_
  obtain ⟨ze, hze⟩ : ∃ z, z = ((zs.toInt64) + (((i1.toInt64) &&& (2147483647 : Int64)) - (((i1.toInt64) &&& (2147483647 : Int64)) / sp) * sp)).toInt32 := ⟨_, rfl⟩
  rw [← hze]
  have z1 := own_en sp1 z0 hze
  have z2 : ¬ ze < zs := own_nlt z1
  have z3 : ¬ zs < zs := own_nlt (Int.le_refl _)
  have z4 : ¬ ze < ze := own_nlt (Int.le_refl _)
  refine GoesW.step (B := s₁.setTop (mkF m 30 #[.val (.int i0), .val (.int i1), .val (.int i2), .val (.int zs), .val (.long sp), .second, .val (.int ze), .unset, .unset, .unset, .unset] [])) (fun _ k => XS.istore X0.here hx rfl (hb hby at_28) rfl (l' := #[.val (.int i0), .val (.int i1), .val (.int i2), .val (.int zs), .val (.long sp), .second, .val (.int ze), .unset, .unset, .unset, .unset]) rfl k) ?_
  obtain ⟨T1, h1, X1, e1, E1, A1, D1, -, st1⟩ := newO X0 hx hZ hown (hw _ (List.mem_of_getElem? (i := 2) rfl)) (hw _ (List.mem_of_getElem? (i := 3) rfl)) (hw _ (List.mem_of_getElem? (i := 4) rfl)) e0 (g := (mkF m 30 #[.val (.int i0), .val (.int i1), .val (.int i2), .val (.int zs), .val (.long sp), .second, .val (.int ze), .unset, .unset, .unset, .unset] [])) rfl (hb hby at_30) (by decide) (by decide)
  obtain ⟨b1, g1⟩ : ∃ z, z = h0.size := ⟨_, rfl⟩
  rw [← g1] at A1 D1 st1
  have g_b1 : n0 ≤ b1 := Nat.le_trans (own_z O0) (Nat.le_of_eq g1.symm)
  have O_1 := O0.ext E1
  have F1_id : Fld Z h1 b1 "com/example/errantry/errantry/workload/Task" "id" "Ljava/lang/String;" .null := D1 (Or.inr (hw _ (List.mem_of_getElem? (i := 36) rfl))) (ty := (.object "java/lang/String")) (by decide)
  have F1_position : Fld Z h1 b1 "com/example/errantry/errantry/workload/Task" "position" "Lcom/example/errantry/errantry/workload/Position;" .null := D1 (Or.inr (hw _ (List.mem_of_getElem? (i := 38) rfl))) (ty := (.object "com/example/errantry/errantry/workload/Position")) (by decide)
  have F1_radiusM : Fld Z h1 b1 "com/example/errantry/errantry/workload/Task" "radiusM" "D" (.double (0 : UInt64)) := D1 (Or.inr (hw _ (List.mem_of_getElem? (i := 40) rfl))) (ty := .double) (by decide)
  have F1_start : Fld Z h1 b1 "com/example/errantry/errantry/workload/Task" "start" "I" (.int (0 : Int32)) := D1 (Or.inr (hw _ (List.mem_of_getElem? (i := 42) rfl))) (ty := .int) (by decide)
  have F1_end : Fld Z h1 b1 "com/example/errantry/errantry/workload/Task" "end" "I" (.int (0 : Int32)) := D1 (Or.inr (hw _ (List.mem_of_getElem? (i := 44) rfl))) (ty := .int) (by decide)
  refine GoesW.step (B := T1.setTop (mkF m 33 #[.val (.int i0), .val (.int i1), .val (.int i2), .val (.int zs), .val (.long sp), .second, .val (.int ze), .unset, .unset, .unset, .unset] [(.ref b1)])) st1 ?_
  refine GoesW.step (B := T1.setTop (mkF m 34 #[.val (.int i0), .val (.int i1), .val (.int i2), .val (.int zs), .val (.long sp), .second, .val (.int ze), .unset, .unset, .unset, .unset] [(.ref b1), (.ref b1)])) (fun _ k => XS.dup X1.here hx rfl (hb hby at_33) rfl rfl k) ?_
  obtain ⟨b2, T2, h2, k2, X2, e2, E2, hS2, hk2, hZ2, hown2, st2⟩ := ldcS X1 hx hZ hown (hw _ (List.mem_of_getElem? (i := 5) rfl)) (own_wS hw) e1 hS0 (Nat.le_trans (Nat.le_refl _) E1.1) (g := (mkF m 34 #[.val (.int i0), .val (.int i1), .val (.int i2), .val (.int zs), .val (.long sp), .second, .val (.int ze), .unset, .unset, .unset, .unset] [(.ref b1), (.ref b1)])) rfl (hb hby at_34) (n := 4) (by decide) (by decide) (by decide) (by decide)
  have O_2 := O_1.ext E2
  refine GoesW.step (B := T2.setTop (mkF m 36 #[.val (.int i0), .val (.int i1), .val (.int i2), .val (.int zs), .val (.long sp), .second, .val (.int ze), .unset, .unset, .unset, .unset] [(.ref b2), (.ref b1), (.ref b1)])) st2 ?_
  obtain ⟨T3, h3, X3, e3, E3, A3, D3, -, st3⟩ := newO X2 hx hZ2 hown2 (hw _ (List.mem_of_getElem? (i := 13) rfl)) (hw _ (List.mem_of_getElem? (i := 14) rfl)) (hw _ (List.mem_of_getElem? (i := 15) rfl)) e2 (g := (mkF m 36 #[.val (.int i0), .val (.int i1), .val (.int i2), .val (.int zs), .val (.long sp), .second, .val (.int ze), .unset, .unset, .unset, .unset] [(.ref b2), (.ref b1), (.ref b1)])) rfl (hb hby at_36) (by decide) (by decide)
  obtain ⟨b3, g3⟩ : ∃ z, z = h2.size := ⟨_, rfl⟩
  rw [← g3] at A3 D3 st3
  have f4 := (A1.ext E2)
  have ne_b1_b3 : b1 ≠ b3 := Nat.ne_of_lt (Nat.lt_of_lt_of_le f4.lt (Nat.le_of_eq g3.symm))
  have g_b3 : n0 ≤ b3 := Nat.le_trans (own_z O_2) (Nat.le_of_eq g3.symm)
  have O_3 := O_2.ext E3
  have F3_lat : Fld Z h3 b3 "com/example/errantry/errantry/workload/Position" "lat" "D" (.double (0 : UInt64)) := D3 (Or.inr (hw _ (List.mem_of_getElem? (i := 28) rfl))) (ty := .double) (by decide)
  have F3_lon : Fld Z h3 b3 "com/example/errantry/errantry/workload/Position" "lon" "D" (.double (0 : UInt64)) := D3 (Or.inr (hw _ (List.mem_of_getElem? (i := 30) rfl))) (ty := .double) (by decide)
  refine GoesW.step (B := T3.setTop (mkF m 39 #[.val (.int i0), .val (.int i1), .val (.int i2), .val (.int zs), .val (.long sp), .second, .val (.int ze), .unset, .unset, .unset, .unset] [(.ref b3), (.ref b2), (.ref b1), (.ref b1)])) st3 ?_
  refine GoesW.step (B := T3.setTop (mkF m 40 #[.val (.int i0), .val (.int i1), .val (.int i2), .val (.int zs), .val (.long sp), .second, .val (.int ze), .unset, .unset, .unset, .unset] [(.ref b3), (.ref b3), (.ref b2), (.ref b1), (.ref b1)])) (fun _ k => XS.dup X3.here hx rfl (hb hby at_39) rfl rfl k) ?_
  refine GoesW.step (B := T3.setTop (mkF m 41 #[.val (.int i0), .val (.int i1), .val (.int i2), .val (.int zs), .val (.long sp), .second, .val (.int ze), .unset, .unset, .unset, .unset] [(.double (0 : UInt64)), (.ref b3), (.ref b3), (.ref b2), (.ref b1), (.ref b1)])) (fun _ k => XS.dconst0 X3.here hx rfl (hb hby at_40) rfl k) ?_
  refine GoesW.step (B := T3.setTop (mkF m 42 #[.val (.int i0), .val (.int i1), .val (.int i2), .val (.int zs), .val (.long sp), .second, .val (.int ze), .unset, .unset, .unset, .unset] [(.double (0 : UInt64)), (.double (0 : UInt64)), (.ref b3), (.ref b3), (.ref b2), (.ref b1), (.ref b1)])) (fun _ k => XS.dconst0 X3.here hx rfl (hb hby at_41) rfl k) ?_
  obtain ⟨_, _, ⟨T5, L5, k5, n5⟩, -, X5, ⟨Lc5, hQ5, l5, y5, z5⟩, st5⟩ := X3.specialBack hx (y := (⟨"com/example/errantry/errantry/workload/Position", "<init>", "(DD)V"⟩ : MethodName)) rfl hown2 (mvT hZ2 (hw _ (List.mem_of_getElem? (i := 16) rfl))) (mvT hZ2 (hw _ (List.mem_of_getElem? (i := 17) rfl))) (mvT hZ2 (hw _ (List.mem_of_getElem? (i := 18) rfl))) (by decide) (backOf (W := 4) (rm1 l Z a0 hw [] b3 (0 : UInt64) (0 : UInt64) h3 n0 O_3 A3 g_b3 F3_lat F3_lon) hZ2 (hw _ (List.mem_of_getElem? (i := 18) rfl)) (hw _ (List.mem_of_getElem? (i := 15) rfl)) (by decide) (by decide)) (g := (mkF m 42 #[.val (.int i0), .val (.int i1), .val (.int i2), .val (.int zs), .val (.long sp), .second, .val (.int ze), .unset, .unset, .unset, .unset] [(.double (0 : UInt64)), (.double (0 : UInt64)), (.ref b3), (.ref b3), (.ref b2), (.ref b1), (.ref b1)])) rfl (by rw [hml]; rfl) (Steps.refl _) (a := b3) (argsL := [(.double (0 : UInt64)), (.double (0 : UInt64))]) (rest := [(.ref b3), (.ref b2), (.ref b1), (.ref b1)]) (lenOf pd_1 rfl) rfl (by show 2 * 0 + _ ≤ _; exact Nat.le_of_eq rfl) (hb hby at_42) (fun _ _ => ⟨rfl, e3, (by decide : 4 + 0 ≤ _), (by decide : 15 + 0 ≤ _)⟩)
  dsimp only [Pt.U, Pt.locs, Pt.cells, Pt.slots] at X5 l5 y5 z5 st5 hQ5
  subst l5 y5 z5
  obtain ⟨rfl, Nq5, Kp5, Ex5, Fc5_lat, Fc5_lon⟩ := hQ5
  have O_5 := O_3.keep Kp5 (allS g_b3 all0)
  have N5 := Fr.app N0 Nq5
  refine GoesW.via (B := T5.setTop (mkF m 45 #[.val (.int i0), .val (.int i1), .val (.int i2), .val (.int zs), .val (.long sp), .second, .val (.int ze), .unset, .unset, .unset, .unset] [(.ref b3), (.ref b2), (.ref b1), (.ref b1)])) st5 ?_
  refine GoesW.step (B := T5.setTop (mkF m 46 #[.val (.int i0), .val (.int i1), .val (.int i2), .val (.int zs), .val (.long sp), .second, .val (.int ze), .unset, .unset, .unset, .unset] [(.double (4607182418800017408 : UInt64)), (.ref b3), (.ref b2), (.ref b1), (.ref b1)])) (fun _ k => XS.dconst1 X5.here hx rfl (hb hby at_45) rfl k) ?_
  refine GoesW.step (B := T5.setTop (mkF m 47 #[.val (.int i0), .val (.int i1), .val (.int i2), .val (.int zs), .val (.long sp), .second, .val (.int ze), .unset, .unset, .unset, .unset] [(.int zs), (.double (4607182418800017408 : UInt64)), (.ref b3), (.ref b2), (.ref b1), (.ref b1)])) (fun _ k => XS.iloadN X5.here hx rfl (hb hby at_46) rfl k) ?_
  refine GoesW.step (B := T5.setTop (mkF m 49 #[.val (.int i0), .val (.int i1), .val (.int i2), .val (.int zs), .val (.long sp), .second, .val (.int ze), .unset, .unset, .unset, .unset] [(.int ze), (.int zs), (.double (4607182418800017408 : UInt64)), (.ref b3), (.ref b2), (.ref b1), (.ref b1)])) (fun _ k => XS.iload X5.here hx rfl (hb hby at_47) rfl k) ?_
  have f7 := ((f4.ext E3).keep Kp5)
  have f8 := (((F1_id.ext E2).ext E3).keep Kp5 (ninS ne_b1_b3 nin0))
  have f9 := (((F1_position.ext E2).ext E3).keep Kp5 (ninS ne_b1_b3 nin0))
  have f10 := (((F1_radiusM.ext E2).ext E3).keep Kp5 (ninS ne_b1_b3 nin0))
  have f11 := (((F1_start.ext E2).ext E3).keep Kp5 (ninS ne_b1_b3 nin0))
  have f12 := (((F1_end.ext E2).ext E3).keep Kp5 (ninS ne_b1_b3 nin0))
  obtain ⟨_, _, ⟨T6, L6, k6, n6⟩, -, X6, ⟨Lc6, hQ6, l6, y6, z6⟩, st6⟩ := X5.specialBack hx (y := (⟨"com/example/errantry/errantry/workload/Task", "<init>", "(Ljava/lang/String;Lcom/example/errantry/errantry/workload/Position;DII)V"⟩ : MethodName)) rfl hown2 (mvT hZ2 (hw _ (List.mem_of_getElem? (i := 31) rfl))) (mvT hZ2 (hw _ (List.mem_of_getElem? (i := 32) rfl))) (mvT hZ2 (hw _ (List.mem_of_getElem? (i := 33) rfl))) (by decide) (backOf (W := 1) (rm4 l Z a0 hw [] b1 b2 b3 (4607182418800017408 : UInt64) zs ze T5.heap n0 O_5 f7 g_b1 f8 f9 f10 f11 f12) hZ2 (hw _ (List.mem_of_getElem? (i := 33) rfl)) (hw _ (List.mem_of_getElem? (i := 4) rfl)) (by decide) (by decide)) (g := (mkF m 49 #[.val (.int i0), .val (.int i1), .val (.int i2), .val (.int zs), .val (.long sp), .second, .val (.int ze), .unset, .unset, .unset, .unset] [(.int ze), (.int zs), (.double (4607182418800017408 : UInt64)), (.ref b3), (.ref b2), (.ref b1), (.ref b1)])) rfl (by rw [hml]; rfl) (Steps.refl _) (a := b1) (argsL := [(.ref b2), (.ref b3), (.double (4607182418800017408 : UInt64)), (.int zs), (.int ze)]) (rest := [(.ref b1)]) (lenOf pd_2 rfl) rfl (by show 2 * 0 + _ ≤ _; exact Nat.le_of_eq rfl) (hb hby at_49) (fun _ _ => ⟨rfl, rfl, (by decide : 4 + 0 ≤ _), (by decide : 15 + 0 ≤ _)⟩)
  dsimp only [Pt.U, Pt.locs, Pt.cells, Pt.slots] at X6 l6 y6 z6 st6 hQ6
  subst l6 y6 z6
  obtain ⟨rfl, Nq6, Kp6, Ex6, Fc6_id, Fc6_position, Fc6_radiusM, Fc6_start, Fc6_end⟩ := hQ6
  have O_6 := O_5.keep Kp6 (allS g_b1 all0)
  have N6 := Fr.app N5 Nq6
  refine GoesW.via (B := T6.setTop (mkF m 52 #[.val (.int i0), .val (.int i1), .val (.int i2), .val (.int zs), .val (.long sp), .second, .val (.int ze), .unset, .unset, .unset, .unset] [(.ref b1)])) st6 ?_
  refine GoesW.step (B := T6.setTop (mkF m 54 #[.val (.int i0), .val (.int i1), .val (.int i2), .val (.int zs), .val (.long sp), .second, .val (.int ze), .val (.ref b1), .unset, .unset, .unset] [])) (fun _ k => XS.astore X6.here hx rfl (hb hby at_52) rfl rfl (l' := #[.val (.int i0), .val (.int i1), .val (.int i2), .val (.int zs), .val (.long sp), .second, .val (.int ze), .val (.ref b1), .unset, .unset, .unset]) rfl k) ?_
  refine GoesW.step (B := T6.setTop (mkF m 55 #[.val (.int i0), .val (.int i1), .val (.int i2), .val (.int zs), .val (.long sp), .second, .val (.int ze), .val (.ref b1), .unset, .unset, .unset] [(.int i2)])) (fun _ k => XS.iloadN X6.here hx rfl (hb hby at_54) rfl k) ?_
  refine GoesW.step (B := T6.setTop (mkF m 56 #[.val (.int i0), .val (.int i1), .val (.int i2), .val (.int zs), .val (.long sp), .second, .val (.int ze), .val (.ref b1), .unset, .unset, .unset] [(.long (i2.toInt64))])) (fun _ k => XS.i2l X6.here hx rfl (hb hby at_55) rfl k) ?_
  refine GoesW.step (B := T6.setTop (mkF m 57 #[.val (.int i0), .val (.int i1), .val (.int i2), .val (.int zs), .val (.long sp), .second, .val (.int ze), .val (.ref b1), .unset, .unset, .unset] [(.int zs), (.long (i2.toInt64))])) (fun _ k => XS.iloadN X6.here hx rfl (hb hby at_56) rfl k) ?_
  refine GoesW.step (B := T6.setTop (mkF m 58 #[.val (.int i0), .val (.int i1), .val (.int i2), .val (.int zs), .val (.long sp), .second, .val (.int ze), .val (.ref b1), .unset, .unset, .unset] [(.long (zs.toInt64)), (.long (i2.toInt64))])) (fun _ k => XS.i2l X6.here hx rfl (hb hby at_57) rfl k) ?_
  refine GoesW.step (B := T6.setTop (mkF m 59 #[.val (.int i0), .val (.int i1), .val (.int i2), .val (.int zs), .val (.long sp), .second, .val (.int ze), .val (.ref b1), .unset, .unset, .unset] [(.long ((i2.toInt64) - (zs.toInt64)))])) (fun _ k => XS.lsub X6.here hx rfl (hb hby at_58) rfl k) ?_
  refine GoesW.step (B := T6.setTop (mkF m 61 #[.val (.int i0), .val (.int i1), .val (.int i2), .val (.int zs), .val (.long sp), .second, .val (.int ze), .val (.ref b1), .val (.long ((i2.toInt64) - (zs.toInt64))), .second, .unset] [])) (fun _ k => XS.lstore X6.here hx rfl (hb hby at_59) rfl (l' := #[.val (.int i0), .val (.int i1), .val (.int i2), .val (.int zs), .val (.long sp), .second, .val (.int ze), .val (.ref b1), .val (.long ((i2.toInt64) - (zs.toInt64))), .second, .unset]) rfl k) ?_
  by_cases hA : i2 < zs
  · refine GoesW.step (B := T6.setTop (mkF m 63 #[.val (.int i0), .val (.int i1), .val (.int i2), .val (.int zs), .val (.long sp), .second, .val (.int ze), .val (.ref b1), .val (.long ((i2.toInt64) - (zs.toInt64))), .second, .unset] [(.long ((i2.toInt64) - (zs.toInt64)))])) (fun _ k => XS.lload X6.here hx rfl (hb hby at_61) rfl k) ?_
    refine GoesW.step (B := T6.setTop (mkF m 64 #[.val (.int i0), .val (.int i1), .val (.int i2), .val (.int zs), .val (.long sp), .second, .val (.int ze), .val (.ref b1), .val (.long ((i2.toInt64) - (zs.toInt64))), .second, .unset] [(.long (0 : Int64)), (.long ((i2.toInt64) - (zs.toInt64)))])) (fun _ k => XS.lconst X6.here hx rfl (hb hby at_63) k) ?_
    refine GoesW.step (B := T6.setTop (mkF m 65 #[.val (.int i0), .val (.int i1), .val (.int i2), .val (.int zs), .val (.long sp), .second, .val (.int ze), .val (.ref b1), .val (.long ((i2.toInt64) - (zs.toInt64))), .second, .unset] [(.int (lcmpW ((i2.toInt64) - (zs.toInt64)) (0 : Int64)))])) (fun _ k => XS.lcmp X6.here hx rfl (hb hby at_64) rfl k) ?_
    refine GoesW.step (B := T6.setTop (mkF m 84 #[.val (.int i0), .val (.int i1), .val (.int i2), .val (.int zs), .val (.long sp), .second, .val (.int ze), .val (.ref b1), .val (.long ((i2.toInt64) - (zs.toInt64))), .second, .unset] [])) (fun _ k => XS.ifYes X6.here hx rfl (pc0 := 65) (pc' := 84) rfl (hb hby at_65) rfl ((if0 _ _).trans (tlt ((lw_lt _ _).mpr (own_o1 hA))).1) (by decide) (by decide) k) ?_
    refine GoesW.step (B := T6.setTop (mkF m 85 #[.val (.int i0), .val (.int i1), .val (.int i2), .val (.int zs), .val (.long sp), .second, .val (.int ze), .val (.ref b1), .val (.long ((i2.toInt64) - (zs.toInt64))), .second, .unset] [(.int (0 : Int32))])) (fun _ k => XS.iconst X6.here hx rfl (hb hby at_84) k) ?_
    refine GoesW.step (B := T6.setTop (mkF m 87 #[.val (.int i0), .val (.int i1), .val (.int i2), .val (.int zs), .val (.long sp), .second, .val (.int ze), .val (.ref b1), .val (.long ((i2.toInt64) - (zs.toInt64))), .second, .val (.int (0 : Int32))] [])) (fun _ k => XS.istore X6.here hx rfl (hb hby at_85) rfl (l' := #[.val (.int i0), .val (.int i1), .val (.int i2), .val (.int zs), .val (.long sp), .second, .val (.int ze), .val (.ref b1), .val (.long ((i2.toInt64) - (zs.toInt64))), .second, .val (.int (0 : Int32))]) rfl k) ?_
    refine GoesW.step (B := T6.setTop (mkF m 89 #[.val (.int i0), .val (.int i1), .val (.int i2), .val (.int zs), .val (.long sp), .second, .val (.int ze), .val (.ref b1), .val (.long ((i2.toInt64) - (zs.toInt64))), .second, .val (.int (0 : Int32))] [(.ref b1)])) (fun _ k => XS.aload X6.here hx rfl (hb hby at_87) rfl rfl k) ?_
    refine GoesW.step (B := T6.setTop (mkF m 90 #[.val (.int i0), .val (.int i1), .val (.int i2), .val (.int zs), .val (.long sp), .second, .val (.int ze), .val (.ref b1), .val (.long ((i2.toInt64) - (zs.toInt64))), .second, .val (.int (0 : Int32))] [(.int i2), (.ref b1)])) (fun _ k => XS.iloadN X6.here hx rfl (hb hby at_89) rfl k) ?_
    obtain ⟨cq13, kq13, qa13, qb13, qc13⟩ := isOf hZ2 rfl Ex6
    obtain ⟨_, _, ⟨T13, L13, k13, n13⟩, -, X13, ⟨Lc13, hQ13, l13, y13, z13⟩, st13⟩ := X6.virtualBack hx (y := (⟨"com/example/errantry/errantry/workload/Task", "isOpenIn", "(I)Z"⟩ : MethodName)) (z := (⟨"com/example/errantry/errantry/workload/Task", "isOpenIn", "(I)Z"⟩ : MethodName)) hown2 (mvT hZ2 (hw _ (List.mem_of_getElem? (i := 45) rfl))) (mvT hZ2 (hw _ (List.mem_of_getElem? (i := 46) rfl))) (notFace_of_selects (args := #[]) (mvT hZ2 (hw _ (List.mem_of_getElem? (i := 48) rfl)))) (mvT hZ2 (hw _ (List.mem_of_getElem? (i := 48) rfl))) (mvT hZ2 (hw _ (List.mem_of_getElem? (i := 47) rfl))) (by decide) (backOf (W := 0) (rmoA l Z a0 hw [] b1 i2 zs ze T6.heap n0 O_6 hA Fc6_start Fc6_end) hZ2 (hw _ (List.mem_of_getElem? (i := 49) rfl)) (hw _ (List.mem_of_getElem? (i := 4) rfl)) (by decide) (by decide)) qa13 qc13 (g := (mkF m 90 #[.val (.int i0), .val (.int i1), .val (.int i2), .val (.int zs), .val (.long sp), .second, .val (.int ze), .val (.ref b1), .val (.long ((i2.toInt64) - (zs.toInt64))), .second, .val (.int (0 : Int32))] [(.int i2), (.ref b1)])) rfl (by rw [hml]; rfl) (Steps.refl _) (argsL := [(.int i2)]) (rest := []) (lenOf pd_3 rfl) rfl (by show 2 * 0 + _ ≤ _; exact Nat.le_of_eq rfl) (hb hby at_90) (fun _ _ => ⟨rfl, rfl, (by decide : 4 + 0 ≤ _), (by decide : 15 + 0 ≤ _)⟩)
    dsimp only [Pt.U, Pt.locs, Pt.cells, Pt.slots] at X13 l13 y13 z13 st13 hQ13
    subst l13 y13 z13
    obtain ⟨rfl, Nq13, eh13⟩ := hQ13
    have N13 := Fr.app N6 Nq13
    refine GoesW.via (B := T13.setTop (mkF m 93 #[.val (.int i0), .val (.int i1), .val (.int i2), .val (.int zs), .val (.long sp), .second, .val (.int ze), .val (.ref b1), .val (.long ((i2.toInt64) - (zs.toInt64))), .second, .val (.int (0 : Int32))] [(.int (0 : Int32))])) st13 ?_
    refine GoesW.step (B := T13.setTop (mkF m 95 #[.val (.int i0), .val (.int i1), .val (.int i2), .val (.int zs), .val (.long sp), .second, .val (.int ze), .val (.ref b1), .val (.long ((i2.toInt64) - (zs.toInt64))), .second, .val (.int (0 : Int32))] [(.int (0 : Int32)), (.int (0 : Int32))])) (fun _ k => XS.iload X13.here hx rfl (hb hby at_93) rfl k) ?_
    refine GoesW.step (B := T13.setTop (mkF m 100 #[.val (.int i0), .val (.int i1), .val (.int i2), .val (.int zs), .val (.long sp), .second, .val (.int ze), .val (.ref b1), .val (.long ((i2.toInt64) - (zs.toInt64))), .second, .val (.int (0 : Int32))] [])) (fun _ k => XS.icmpYes X13.here hx rfl (pc0 := 95) (pc' := 100) rfl (hb hby at_95) rfl (teq (by decide)).1 (by decide) (by decide) k) ?_
    refine GoesW.step (B := T13.setTop (mkF m 102 #[.val (.int i0), .val (.int i1), .val (.int i2), .val (.int zs), .val (.long sp), .second, .val (.int ze), .val (.ref b1), .val (.long ((i2.toInt64) - (zs.toInt64))), .second, .val (.int (0 : Int32))] [(.ref b1)])) (fun _ k => XS.aload X13.here hx rfl (hb hby at_100) rfl rfl k) ?_
    refine GoesW.step (B := T13.setTop (mkF m 103 #[.val (.int i0), .val (.int i1), .val (.int i2), .val (.int zs), .val (.long sp), .second, .val (.int ze), .val (.ref b1), .val (.long ((i2.toInt64) - (zs.toInt64))), .second, .val (.int (0 : Int32))] [(.int zs), (.ref b1)])) (fun _ k => XS.iloadN X13.here hx rfl (hb hby at_102) rfl k) ?_
    obtain ⟨cq14, kq14, qa14, qb14, qc14⟩ := isOf hZ2 eh13 Ex6
    obtain ⟨_, _, ⟨T14, L14, k14, n14⟩, -, X14, ⟨Lc14, hQ14, l14, y14, z14⟩, st14⟩ := X13.virtualBack hx (y := (⟨"com/example/errantry/errantry/workload/Task", "isOpenIn", "(I)Z"⟩ : MethodName)) (z := (⟨"com/example/errantry/errantry/workload/Task", "isOpenIn", "(I)Z"⟩ : MethodName)) hown2 (mvT hZ2 (hw _ (List.mem_of_getElem? (i := 45) rfl))) (mvT hZ2 (hw _ (List.mem_of_getElem? (i := 46) rfl))) (notFace_of_selects (args := #[]) (mvT hZ2 (hw _ (List.mem_of_getElem? (i := 48) rfl)))) (mvT hZ2 (hw _ (List.mem_of_getElem? (i := 48) rfl))) (mvT hZ2 (hw _ (List.mem_of_getElem? (i := 47) rfl))) (by decide) (backOf (W := 0) (rmo1 l Z a0 hw [] b1 zs zs ze T6.heap n0 O_6 z3 z2 Fc6_start Fc6_end) hZ2 (hw _ (List.mem_of_getElem? (i := 49) rfl)) (hw _ (List.mem_of_getElem? (i := 4) rfl)) (by decide) (by decide)) qa14 qc14 (g := (mkF m 103 #[.val (.int i0), .val (.int i1), .val (.int i2), .val (.int zs), .val (.long sp), .second, .val (.int ze), .val (.ref b1), .val (.long ((i2.toInt64) - (zs.toInt64))), .second, .val (.int (0 : Int32))] [(.int zs), (.ref b1)])) rfl (by rw [hml]; rfl) (Steps.refl _) (argsL := [(.int zs)]) (rest := []) (lenOf pd_3 rfl) rfl (by show 2 * 0 + _ ≤ _; exact Nat.le_of_eq rfl) (hb hby at_103) (fun _ _ => ⟨rfl, eh13, (by decide : 4 + 0 ≤ _), (by decide : 15 + 0 ≤ _)⟩)
    dsimp only [Pt.U, Pt.locs, Pt.cells, Pt.slots] at X14 l14 y14 z14 st14 hQ14
    subst l14 y14 z14
    obtain ⟨rfl, Nq14, eh14⟩ := hQ14
    have N14 := Fr.app N13 Nq14
    refine GoesW.via (B := T14.setTop (mkF m 106 #[.val (.int i0), .val (.int i1), .val (.int i2), .val (.int zs), .val (.long sp), .second, .val (.int ze), .val (.ref b1), .val (.long ((i2.toInt64) - (zs.toInt64))), .second, .val (.int (0 : Int32))] [(.int (1 : Int32))])) st14 ?_
    refine GoesW.step (B := T14.setTop (mkF m 109 #[.val (.int i0), .val (.int i1), .val (.int i2), .val (.int zs), .val (.long sp), .second, .val (.int ze), .val (.ref b1), .val (.long ((i2.toInt64) - (zs.toInt64))), .second, .val (.int (0 : Int32))] [])) (fun _ k => XS.ifNo X14.here hx rfl (hb hby at_106) rfl ((if0 _ _).trans (feq (by decide)).1) k) ?_
    refine GoesW.step (B := T14.setTop (mkF m 111 #[.val (.int i0), .val (.int i1), .val (.int i2), .val (.int zs), .val (.long sp), .second, .val (.int ze), .val (.ref b1), .val (.long ((i2.toInt64) - (zs.toInt64))), .second, .val (.int (0 : Int32))] [(.ref b1)])) (fun _ k => XS.aload X14.here hx rfl (hb hby at_109) rfl rfl k) ?_
    refine GoesW.step (B := T14.setTop (mkF m 113 #[.val (.int i0), .val (.int i1), .val (.int i2), .val (.int zs), .val (.long sp), .second, .val (.int ze), .val (.ref b1), .val (.long ((i2.toInt64) - (zs.toInt64))), .second, .val (.int (0 : Int32))] [(.int ze), (.ref b1)])) (fun _ k => XS.iload X14.here hx rfl (hb hby at_111) rfl k) ?_
    obtain ⟨cq15, kq15, qa15, qb15, qc15⟩ := isOf hZ2 eh14 Ex6
    obtain ⟨_, _, ⟨T15, L15, k15, n15⟩, -, X15, ⟨Lc15, hQ15, l15, y15, z15⟩, st15⟩ := X14.virtualBack hx (y := (⟨"com/example/errantry/errantry/workload/Task", "isOpenIn", "(I)Z"⟩ : MethodName)) (z := (⟨"com/example/errantry/errantry/workload/Task", "isOpenIn", "(I)Z"⟩ : MethodName)) hown2 (mvT hZ2 (hw _ (List.mem_of_getElem? (i := 45) rfl))) (mvT hZ2 (hw _ (List.mem_of_getElem? (i := 46) rfl))) (notFace_of_selects (args := #[]) (mvT hZ2 (hw _ (List.mem_of_getElem? (i := 48) rfl)))) (mvT hZ2 (hw _ (List.mem_of_getElem? (i := 48) rfl))) (mvT hZ2 (hw _ (List.mem_of_getElem? (i := 47) rfl))) (by decide) (backOf (W := 0) (rmo1 l Z a0 hw [] b1 ze zs ze T6.heap n0 O_6 z2 z4 Fc6_start Fc6_end) hZ2 (hw _ (List.mem_of_getElem? (i := 49) rfl)) (hw _ (List.mem_of_getElem? (i := 4) rfl)) (by decide) (by decide)) qa15 qc15 (g := (mkF m 113 #[.val (.int i0), .val (.int i1), .val (.int i2), .val (.int zs), .val (.long sp), .second, .val (.int ze), .val (.ref b1), .val (.long ((i2.toInt64) - (zs.toInt64))), .second, .val (.int (0 : Int32))] [(.int ze), (.ref b1)])) rfl (by rw [hml]; rfl) (Steps.refl _) (argsL := [(.int ze)]) (rest := []) (lenOf pd_3 rfl) rfl (by show 2 * 0 + _ ≤ _; exact Nat.le_of_eq rfl) (hb hby at_113) (fun _ _ => ⟨rfl, eh14, (by decide : 4 + 0 ≤ _), (by decide : 15 + 0 ≤ _)⟩)
    dsimp only [Pt.U, Pt.locs, Pt.cells, Pt.slots] at X15 l15 y15 z15 st15 hQ15
    subst l15 y15 z15
    obtain ⟨rfl, Nq15, eh15⟩ := hQ15
    have N15 := Fr.app N14 Nq15
    refine GoesW.via (B := T15.setTop (mkF m 116 #[.val (.int i0), .val (.int i1), .val (.int i2), .val (.int zs), .val (.long sp), .second, .val (.int ze), .val (.ref b1), .val (.long ((i2.toInt64) - (zs.toInt64))), .second, .val (.int (0 : Int32))] [(.int (1 : Int32))])) st15 ?_
    refine GoesW.step (B := T15.setTop (mkF m 121 #[.val (.int i0), .val (.int i1), .val (.int i2), .val (.int zs), .val (.long sp), .second, .val (.int ze), .val (.ref b1), .val (.long ((i2.toInt64) - (zs.toInt64))), .second, .val (.int (0 : Int32))] [])) (fun _ k => XS.ifYes X15.here hx rfl (pc0 := 116) (pc' := 121) rfl (hb hby at_116) rfl ((if0 _ _).trans (feq (by decide)).2) (by decide) (by decide) k) ?_
    refine GoesW.step (B := T15.setTop (mkF m 123 #[.val (.int i0), .val (.int i1), .val (.int i2), .val (.int zs), .val (.long sp), .second, .val (.int ze), .val (.ref b1), .val (.long ((i2.toInt64) - (zs.toInt64))), .second, .val (.int (0 : Int32))] [(.ref b1)])) (fun _ k => XS.aload X15.here hx rfl (hb hby at_121) rfl rfl k) ?_
    refine GoesW.step (B := T15.setTop (mkF m 124 #[.val (.int i0), .val (.int i1), .val (.int i2), .val (.int zs), .val (.long sp), .second, .val (.int ze), .val (.ref b1), .val (.long ((i2.toInt64) - (zs.toInt64))), .second, .val (.int (0 : Int32))] [(.int zs), (.ref b1)])) (fun _ k => XS.iloadN X15.here hx rfl (hb hby at_123) rfl k) ?_
    refine GoesW.step (B := T15.setTop (mkF m 125 #[.val (.int i0), .val (.int i1), .val (.int i2), .val (.int zs), .val (.long sp), .second, .val (.int ze), .val (.ref b1), .val (.long ((i2.toInt64) - (zs.toInt64))), .second, .val (.int (0 : Int32))] [(.int (1 : Int32)), (.int zs), (.ref b1)])) (fun _ k => XS.iconst X15.here hx rfl (hb hby at_124) k) ?_
    refine GoesW.step (B := T15.setTop (mkF m 126 #[.val (.int i0), .val (.int i1), .val (.int i2), .val (.int zs), .val (.long sp), .second, .val (.int ze), .val (.ref b1), .val (.long ((i2.toInt64) - (zs.toInt64))), .second, .val (.int (0 : Int32))] [(.int (zs - (1 : Int32))), (.ref b1)])) (fun _ k => XS.isub X15.here hx rfl (hb hby at_125) rfl k) ?_
    obtain ⟨cq16, kq16, qa16, qb16, qc16⟩ := isOf hZ2 eh15 Ex6
    obtain ⟨_, _, ⟨T16, L16, k16, n16⟩, -, X16, ⟨Lc16, hQ16, l16, y16, z16⟩, st16⟩ := X15.virtualBack hx (y := (⟨"com/example/errantry/errantry/workload/Task", "isOpenIn", "(I)Z"⟩ : MethodName)) (z := (⟨"com/example/errantry/errantry/workload/Task", "isOpenIn", "(I)Z"⟩ : MethodName)) hown2 (mvT hZ2 (hw _ (List.mem_of_getElem? (i := 45) rfl))) (mvT hZ2 (hw _ (List.mem_of_getElem? (i := 46) rfl))) (notFace_of_selects (args := #[]) (mvT hZ2 (hw _ (List.mem_of_getElem? (i := 48) rfl)))) (mvT hZ2 (hw _ (List.mem_of_getElem? (i := 48) rfl))) (mvT hZ2 (hw _ (List.mem_of_getElem? (i := 47) rfl))) (by decide) (backOf (W := 0) (rmoA l Z a0 hw [] b1 (zs - (1 : Int32)) zs ze T6.heap n0 O_6 (own_dec z0) Fc6_start Fc6_end) hZ2 (hw _ (List.mem_of_getElem? (i := 49) rfl)) (hw _ (List.mem_of_getElem? (i := 4) rfl)) (by decide) (by decide)) qa16 qc16 (g := (mkF m 126 #[.val (.int i0), .val (.int i1), .val (.int i2), .val (.int zs), .val (.long sp), .second, .val (.int ze), .val (.ref b1), .val (.long ((i2.toInt64) - (zs.toInt64))), .second, .val (.int (0 : Int32))] [(.int (zs - (1 : Int32))), (.ref b1)])) rfl (by rw [hml]; rfl) (Steps.refl _) (argsL := [(.int (zs - (1 : Int32)))]) (rest := []) (lenOf pd_3 rfl) rfl (by show 2 * 0 + _ ≤ _; exact Nat.le_of_eq rfl) (hb hby at_126) (fun _ _ => ⟨rfl, eh15, (by decide : 4 + 0 ≤ _), (by decide : 15 + 0 ≤ _)⟩)
    dsimp only [Pt.U, Pt.locs, Pt.cells, Pt.slots] at X16 l16 y16 z16 st16 hQ16
    subst l16 y16 z16
    obtain ⟨rfl, Nq16, eh16⟩ := hQ16
    have N16 := Fr.app N15 Nq16
    refine GoesW.via (B := T16.setTop (mkF m 129 #[.val (.int i0), .val (.int i1), .val (.int i2), .val (.int zs), .val (.long sp), .second, .val (.int ze), .val (.ref b1), .val (.long ((i2.toInt64) - (zs.toInt64))), .second, .val (.int (0 : Int32))] [(.int (0 : Int32))])) st16 ?_
    refine GoesW.step (B := T16.setTop (mkF m 134 #[.val (.int i0), .val (.int i1), .val (.int i2), .val (.int zs), .val (.long sp), .second, .val (.int ze), .val (.ref b1), .val (.long ((i2.toInt64) - (zs.toInt64))), .second, .val (.int (0 : Int32))] [])) (fun _ k => XS.ifYes X16.here hx rfl (pc0 := 129) (pc' := 134) rfl (hb hby at_129) rfl ((if0 _ _).trans (teq (by decide)).1) (by decide) (by decide) k) ?_
    refine GoesW.step (B := T16.setTop (mkF m 136 #[.val (.int i0), .val (.int i1), .val (.int i2), .val (.int zs), .val (.long sp), .second, .val (.int ze), .val (.ref b1), .val (.long ((i2.toInt64) - (zs.toInt64))), .second, .val (.int (0 : Int32))] [(.int ze)])) (fun _ k => XS.iload X16.here hx rfl (hb hby at_134) rfl k) ?_
    refine GoesW.step (B := T16.setTop (mkF m 138 #[.val (.int i0), .val (.int i1), .val (.int i2), .val (.int zs), .val (.long sp), .second, .val (.int ze), .val (.ref b1), .val (.long ((i2.toInt64) - (zs.toInt64))), .second, .val (.int (0 : Int32))] [(.int (2147483647 : Int32)), (.int ze)])) (X16.ldcInt hx hown2 (mvT hZ2 (hw _ (List.mem_of_getElem? (i := 0) rfl))) (g := (mkF m 136 #[.val (.int i0), .val (.int i1), .val (.int i2), .val (.int zs), .val (.long sp), .second, .val (.int ze), .val (.ref b1), .val (.long ((i2.toInt64) - (zs.toInt64))), .second, .val (.int (0 : Int32))] [(.int ze)])) rfl (hb hby at_136)) ?_
    by_cases hc138_16 : ze < (2147483647 : Int32)
    · refine GoesW.step (B := T16.setTop (mkF m 141 #[.val (.int i0), .val (.int i1), .val (.int i2), .val (.int zs), .val (.long sp), .second, .val (.int ze), .val (.ref b1), .val (.long ((i2.toInt64) - (zs.toInt64))), .second, .val (.int (0 : Int32))] [])) (fun _ k => XS.icmpNo X16.here hx rfl (hb hby at_138) rfl (tlt hc138_16).2.1 k) ?_
      obtain ⟨y1, y2⟩ := own_inc hc138_16
      have y3 : ¬ (ze + (1 : Int32)) < zs := own_nlt (by omega)
      refine GoesW.step (B := T16.setTop (mkF m 143 #[.val (.int i0), .val (.int i1), .val (.int i2), .val (.int zs), .val (.long sp), .second, .val (.int ze), .val (.ref b1), .val (.long ((i2.toInt64) - (zs.toInt64))), .second, .val (.int (0 : Int32))] [(.ref b1)])) (fun _ k => XS.aload X16.here hx rfl (hb hby at_141) rfl rfl k) ?_
      refine GoesW.step (B := T16.setTop (mkF m 145 #[.val (.int i0), .val (.int i1), .val (.int i2), .val (.int zs), .val (.long sp), .second, .val (.int ze), .val (.ref b1), .val (.long ((i2.toInt64) - (zs.toInt64))), .second, .val (.int (0 : Int32))] [(.int ze), (.ref b1)])) (fun _ k => XS.iload X16.here hx rfl (hb hby at_143) rfl k) ?_
      refine GoesW.step (B := T16.setTop (mkF m 146 #[.val (.int i0), .val (.int i1), .val (.int i2), .val (.int zs), .val (.long sp), .second, .val (.int ze), .val (.ref b1), .val (.long ((i2.toInt64) - (zs.toInt64))), .second, .val (.int (0 : Int32))] [(.int (1 : Int32)), (.int ze), (.ref b1)])) (fun _ k => XS.iconst X16.here hx rfl (hb hby at_145) k) ?_
      refine GoesW.step (B := T16.setTop (mkF m 147 #[.val (.int i0), .val (.int i1), .val (.int i2), .val (.int zs), .val (.long sp), .second, .val (.int ze), .val (.ref b1), .val (.long ((i2.toInt64) - (zs.toInt64))), .second, .val (.int (0 : Int32))] [(.int (ze + (1 : Int32))), (.ref b1)])) (fun _ k => XS.iadd X16.here hx rfl (hb hby at_146) rfl k) ?_
      obtain ⟨cq18, kq18, qa18, qb18, qc18⟩ := isOf hZ2 eh16 Ex6
      obtain ⟨_, _, ⟨T18, L18, k18, n18⟩, -, X18, ⟨Lc18, hQ18, l18, y18, z18⟩, st18⟩ := X16.virtualBack hx (y := (⟨"com/example/errantry/errantry/workload/Task", "isOpenIn", "(I)Z"⟩ : MethodName)) (z := (⟨"com/example/errantry/errantry/workload/Task", "isOpenIn", "(I)Z"⟩ : MethodName)) hown2 (mvT hZ2 (hw _ (List.mem_of_getElem? (i := 45) rfl))) (mvT hZ2 (hw _ (List.mem_of_getElem? (i := 46) rfl))) (notFace_of_selects (args := #[]) (mvT hZ2 (hw _ (List.mem_of_getElem? (i := 48) rfl)))) (mvT hZ2 (hw _ (List.mem_of_getElem? (i := 48) rfl))) (mvT hZ2 (hw _ (List.mem_of_getElem? (i := 47) rfl))) (by decide) (backOf (W := 0) (rmoB l Z a0 hw [] b1 (ze + (1 : Int32)) zs ze T6.heap n0 O_6 y3 y1 Fc6_start Fc6_end) hZ2 (hw _ (List.mem_of_getElem? (i := 49) rfl)) (hw _ (List.mem_of_getElem? (i := 4) rfl)) (by decide) (by decide)) qa18 qc18 (g := (mkF m 147 #[.val (.int i0), .val (.int i1), .val (.int i2), .val (.int zs), .val (.long sp), .second, .val (.int ze), .val (.ref b1), .val (.long ((i2.toInt64) - (zs.toInt64))), .second, .val (.int (0 : Int32))] [(.int (ze + (1 : Int32))), (.ref b1)])) rfl (by rw [hml]; rfl) (Steps.refl _) (argsL := [(.int (ze + (1 : Int32)))]) (rest := []) (lenOf pd_3 rfl) rfl (by show 2 * 0 + _ ≤ _; exact Nat.le_of_eq rfl) (hb hby at_147) (fun _ _ => ⟨rfl, eh16, (by decide : 4 + 0 ≤ _), (by decide : 15 + 0 ≤ _)⟩)
      dsimp only [Pt.U, Pt.locs, Pt.cells, Pt.slots] at X18 l18 y18 z18 st18 hQ18
      subst l18 y18 z18
      obtain ⟨rfl, Nq18, eh18⟩ := hQ18
      have N18 := Fr.app N16 Nq18
      refine GoesW.via (B := T18.setTop (mkF m 150 #[.val (.int i0), .val (.int i1), .val (.int i2), .val (.int zs), .val (.long sp), .second, .val (.int ze), .val (.ref b1), .val (.long ((i2.toInt64) - (zs.toInt64))), .second, .val (.int (0 : Int32))] [(.int (0 : Int32))])) st18 ?_
      refine GoesW.step (B := T18.setTop (mkF m 155 #[.val (.int i0), .val (.int i1), .val (.int i2), .val (.int zs), .val (.long sp), .second, .val (.int ze), .val (.ref b1), .val (.long ((i2.toInt64) - (zs.toInt64))), .second, .val (.int (0 : Int32))] [])) (fun _ k => XS.ifYes X18.here hx rfl (pc0 := 150) (pc' := 155) rfl (hb hby at_150) rfl ((if0 _ _).trans (teq (by decide)).1) (by decide) (by decide) k) ?_
      refine GoesW.step (B := T18.setTop (mkF m 156 #[.val (.int i0), .val (.int i1), .val (.int i2), .val (.int zs), .val (.long sp), .second, .val (.int ze), .val (.ref b1), .val (.long ((i2.toInt64) - (zs.toInt64))), .second, .val (.int (0 : Int32))] [(.int (1 : Int32))])) (fun _ k => XS.iconst X18.here hx rfl (hb hby at_155) k) ?_
      exact GoesW.retN X18 hS2 (Nat.le_trans (Nat.le_trans (Nat.le_trans hk2 E3.1) Kp5.1) Kp6.1) hx eh18 (t := .boolean) Bd.returns (by simp) hlk (hb hby at_156) (by decide) (by decide) (⟨rfl, N18⟩)
    · refine GoesW.step (B := T16.setTop (mkF m 155 #[.val (.int i0), .val (.int i1), .val (.int i2), .val (.int zs), .val (.long sp), .second, .val (.int ze), .val (.ref b1), .val (.long ((i2.toInt64) - (zs.toInt64))), .second, .val (.int (0 : Int32))] [])) (fun _ k => XS.icmpYes X16.here hx rfl (pc0 := 138) (pc' := 155) rfl (hb hby at_138) rfl (flt hc138_16).2.1 (by decide) (by decide) k) ?_
      refine GoesW.step (B := T16.setTop (mkF m 156 #[.val (.int i0), .val (.int i1), .val (.int i2), .val (.int zs), .val (.long sp), .second, .val (.int ze), .val (.ref b1), .val (.long ((i2.toInt64) - (zs.toInt64))), .second, .val (.int (0 : Int32))] [(.int (1 : Int32))])) (fun _ k => XS.iconst X16.here hx rfl (hb hby at_155) k) ?_
      exact GoesW.retN X16 hS2 (Nat.le_trans (Nat.le_trans (Nat.le_trans hk2 E3.1) Kp5.1) Kp6.1) hx eh16 (t := .boolean) Bd.returns (by simp) hlk (hb hby at_156) (by decide) (by decide) (⟨rfl, N16⟩)
  · by_cases hB : ze < i2
    · refine GoesW.step (B := T6.setTop (mkF m 63 #[.val (.int i0), .val (.int i1), .val (.int i2), .val (.int zs), .val (.long sp), .second, .val (.int ze), .val (.ref b1), .val (.long ((i2.toInt64) - (zs.toInt64))), .second, .unset] [(.long ((i2.toInt64) - (zs.toInt64)))])) (fun _ k => XS.lload X6.here hx rfl (hb hby at_61) rfl k) ?_
      refine GoesW.step (B := T6.setTop (mkF m 64 #[.val (.int i0), .val (.int i1), .val (.int i2), .val (.int zs), .val (.long sp), .second, .val (.int ze), .val (.ref b1), .val (.long ((i2.toInt64) - (zs.toInt64))), .second, .unset] [(.long (0 : Int64)), (.long ((i2.toInt64) - (zs.toInt64)))])) (fun _ k => XS.lconst X6.here hx rfl (hb hby at_63) k) ?_
      refine GoesW.step (B := T6.setTop (mkF m 65 #[.val (.int i0), .val (.int i1), .val (.int i2), .val (.int zs), .val (.long sp), .second, .val (.int ze), .val (.ref b1), .val (.long ((i2.toInt64) - (zs.toInt64))), .second, .unset] [(.int (lcmpW ((i2.toInt64) - (zs.toInt64)) (0 : Int64)))])) (fun _ k => XS.lcmp X6.here hx rfl (hb hby at_64) rfl k) ?_
      refine GoesW.step (B := T6.setTop (mkF m 68 #[.val (.int i0), .val (.int i1), .val (.int i2), .val (.int zs), .val (.long sp), .second, .val (.int ze), .val (.ref b1), .val (.long ((i2.toInt64) - (zs.toInt64))), .second, .unset] [])) (fun _ k => XS.ifNo X6.here hx rfl (hb hby at_65) rfl ((if0 _ _).trans (flt (fun q => (own_o2 hA) ((lw_lt _ _).mp q))).1) k) ?_
      refine GoesW.step (B := T6.setTop (mkF m 70 #[.val (.int i0), .val (.int i1), .val (.int i2), .val (.int zs), .val (.long sp), .second, .val (.int ze), .val (.ref b1), .val (.long ((i2.toInt64) - (zs.toInt64))), .second, .unset] [(.long ((i2.toInt64) - (zs.toInt64)))])) (fun _ k => XS.lload X6.here hx rfl (hb hby at_68) rfl k) ?_
      refine GoesW.step (B := T6.setTop (mkF m 72 #[.val (.int i0), .val (.int i1), .val (.int i2), .val (.int zs), .val (.long sp), .second, .val (.int ze), .val (.ref b1), .val (.long ((i2.toInt64) - (zs.toInt64))), .second, .unset] [(.int ze), (.long ((i2.toInt64) - (zs.toInt64)))])) (fun _ k => XS.iload X6.here hx rfl (hb hby at_70) rfl k) ?_
      refine GoesW.step (B := T6.setTop (mkF m 73 #[.val (.int i0), .val (.int i1), .val (.int i2), .val (.int zs), .val (.long sp), .second, .val (.int ze), .val (.ref b1), .val (.long ((i2.toInt64) - (zs.toInt64))), .second, .unset] [(.long (ze.toInt64)), (.long ((i2.toInt64) - (zs.toInt64)))])) (fun _ k => XS.i2l X6.here hx rfl (hb hby at_72) rfl k) ?_
      refine GoesW.step (B := T6.setTop (mkF m 74 #[.val (.int i0), .val (.int i1), .val (.int i2), .val (.int zs), .val (.long sp), .second, .val (.int ze), .val (.ref b1), .val (.long ((i2.toInt64) - (zs.toInt64))), .second, .unset] [(.int zs), (.long (ze.toInt64)), (.long ((i2.toInt64) - (zs.toInt64)))])) (fun _ k => XS.iloadN X6.here hx rfl (hb hby at_73) rfl k) ?_
      refine GoesW.step (B := T6.setTop (mkF m 75 #[.val (.int i0), .val (.int i1), .val (.int i2), .val (.int zs), .val (.long sp), .second, .val (.int ze), .val (.ref b1), .val (.long ((i2.toInt64) - (zs.toInt64))), .second, .unset] [(.long (zs.toInt64)), (.long (ze.toInt64)), (.long ((i2.toInt64) - (zs.toInt64)))])) (fun _ k => XS.i2l X6.here hx rfl (hb hby at_74) rfl k) ?_
      refine GoesW.step (B := T6.setTop (mkF m 76 #[.val (.int i0), .val (.int i1), .val (.int i2), .val (.int zs), .val (.long sp), .second, .val (.int ze), .val (.ref b1), .val (.long ((i2.toInt64) - (zs.toInt64))), .second, .unset] [(.long ((ze.toInt64) - (zs.toInt64))), (.long ((i2.toInt64) - (zs.toInt64)))])) (fun _ k => XS.lsub X6.here hx rfl (hb hby at_75) rfl k) ?_
      refine GoesW.step (B := T6.setTop (mkF m 77 #[.val (.int i0), .val (.int i1), .val (.int i2), .val (.int zs), .val (.long sp), .second, .val (.int ze), .val (.ref b1), .val (.long ((i2.toInt64) - (zs.toInt64))), .second, .unset] [(.int (lcmpW ((i2.toInt64) - (zs.toInt64)) ((ze.toInt64) - (zs.toInt64))))])) (fun _ k => XS.lcmp X6.here hx rfl (hb hby at_76) rfl k) ?_
      refine GoesW.step (B := T6.setTop (mkF m 84 #[.val (.int i0), .val (.int i1), .val (.int i2), .val (.int zs), .val (.long sp), .second, .val (.int ze), .val (.ref b1), .val (.long ((i2.toInt64) - (zs.toInt64))), .second, .unset] [])) (fun _ k => XS.ifYes X6.here hx rfl (pc0 := 77) (pc' := 84) rfl (hb hby at_77) rfl ((if0 _ _).trans (tlt ((lw_gt _ _).mpr (own_o3 hB))).2.2.1) (by decide) (by decide) k) ?_
      refine GoesW.step (B := T6.setTop (mkF m 85 #[.val (.int i0), .val (.int i1), .val (.int i2), .val (.int zs), .val (.long sp), .second, .val (.int ze), .val (.ref b1), .val (.long ((i2.toInt64) - (zs.toInt64))), .second, .unset] [(.int (0 : Int32))])) (fun _ k => XS.iconst X6.here hx rfl (hb hby at_84) k) ?_
      refine GoesW.step (B := T6.setTop (mkF m 87 #[.val (.int i0), .val (.int i1), .val (.int i2), .val (.int zs), .val (.long sp), .second, .val (.int ze), .val (.ref b1), .val (.long ((i2.toInt64) - (zs.toInt64))), .second, .val (.int (0 : Int32))] [])) (fun _ k => XS.istore X6.here hx rfl (hb hby at_85) rfl (l' := #[.val (.int i0), .val (.int i1), .val (.int i2), .val (.int zs), .val (.long sp), .second, .val (.int ze), .val (.ref b1), .val (.long ((i2.toInt64) - (zs.toInt64))), .second, .val (.int (0 : Int32))]) rfl k) ?_
      refine GoesW.step (B := T6.setTop (mkF m 89 #[.val (.int i0), .val (.int i1), .val (.int i2), .val (.int zs), .val (.long sp), .second, .val (.int ze), .val (.ref b1), .val (.long ((i2.toInt64) - (zs.toInt64))), .second, .val (.int (0 : Int32))] [(.ref b1)])) (fun _ k => XS.aload X6.here hx rfl (hb hby at_87) rfl rfl k) ?_
      refine GoesW.step (B := T6.setTop (mkF m 90 #[.val (.int i0), .val (.int i1), .val (.int i2), .val (.int zs), .val (.long sp), .second, .val (.int ze), .val (.ref b1), .val (.long ((i2.toInt64) - (zs.toInt64))), .second, .val (.int (0 : Int32))] [(.int i2), (.ref b1)])) (fun _ k => XS.iloadN X6.here hx rfl (hb hby at_89) rfl k) ?_
      obtain ⟨cq19, kq19, qa19, qb19, qc19⟩ := isOf hZ2 rfl Ex6
      obtain ⟨_, _, ⟨T19, L19, k19, n19⟩, -, X19, ⟨Lc19, hQ19, l19, y19, z19⟩, st19⟩ := X6.virtualBack hx (y := (⟨"com/example/errantry/errantry/workload/Task", "isOpenIn", "(I)Z"⟩ : MethodName)) (z := (⟨"com/example/errantry/errantry/workload/Task", "isOpenIn", "(I)Z"⟩ : MethodName)) hown2 (mvT hZ2 (hw _ (List.mem_of_getElem? (i := 45) rfl))) (mvT hZ2 (hw _ (List.mem_of_getElem? (i := 46) rfl))) (notFace_of_selects (args := #[]) (mvT hZ2 (hw _ (List.mem_of_getElem? (i := 48) rfl)))) (mvT hZ2 (hw _ (List.mem_of_getElem? (i := 48) rfl))) (mvT hZ2 (hw _ (List.mem_of_getElem? (i := 47) rfl))) (by decide) (backOf (W := 0) (rmoB l Z a0 hw [] b1 i2 zs ze T6.heap n0 O_6 hA hB Fc6_start Fc6_end) hZ2 (hw _ (List.mem_of_getElem? (i := 49) rfl)) (hw _ (List.mem_of_getElem? (i := 4) rfl)) (by decide) (by decide)) qa19 qc19 (g := (mkF m 90 #[.val (.int i0), .val (.int i1), .val (.int i2), .val (.int zs), .val (.long sp), .second, .val (.int ze), .val (.ref b1), .val (.long ((i2.toInt64) - (zs.toInt64))), .second, .val (.int (0 : Int32))] [(.int i2), (.ref b1)])) rfl (by rw [hml]; rfl) (Steps.refl _) (argsL := [(.int i2)]) (rest := []) (lenOf pd_3 rfl) rfl (by show 2 * 0 + _ ≤ _; exact Nat.le_of_eq rfl) (hb hby at_90) (fun _ _ => ⟨rfl, rfl, (by decide : 4 + 0 ≤ _), (by decide : 15 + 0 ≤ _)⟩)
      dsimp only [Pt.U, Pt.locs, Pt.cells, Pt.slots] at X19 l19 y19 z19 st19 hQ19
      subst l19 y19 z19
      obtain ⟨rfl, Nq19, eh19⟩ := hQ19
      have N19 := Fr.app N6 Nq19
      refine GoesW.via (B := T19.setTop (mkF m 93 #[.val (.int i0), .val (.int i1), .val (.int i2), .val (.int zs), .val (.long sp), .second, .val (.int ze), .val (.ref b1), .val (.long ((i2.toInt64) - (zs.toInt64))), .second, .val (.int (0 : Int32))] [(.int (0 : Int32))])) st19 ?_
      refine GoesW.step (B := T19.setTop (mkF m 95 #[.val (.int i0), .val (.int i1), .val (.int i2), .val (.int zs), .val (.long sp), .second, .val (.int ze), .val (.ref b1), .val (.long ((i2.toInt64) - (zs.toInt64))), .second, .val (.int (0 : Int32))] [(.int (0 : Int32)), (.int (0 : Int32))])) (fun _ k => XS.iload X19.here hx rfl (hb hby at_93) rfl k) ?_
      refine GoesW.step (B := T19.setTop (mkF m 100 #[.val (.int i0), .val (.int i1), .val (.int i2), .val (.int zs), .val (.long sp), .second, .val (.int ze), .val (.ref b1), .val (.long ((i2.toInt64) - (zs.toInt64))), .second, .val (.int (0 : Int32))] [])) (fun _ k => XS.icmpYes X19.here hx rfl (pc0 := 95) (pc' := 100) rfl (hb hby at_95) rfl (teq (by decide)).1 (by decide) (by decide) k) ?_
      refine GoesW.step (B := T19.setTop (mkF m 102 #[.val (.int i0), .val (.int i1), .val (.int i2), .val (.int zs), .val (.long sp), .second, .val (.int ze), .val (.ref b1), .val (.long ((i2.toInt64) - (zs.toInt64))), .second, .val (.int (0 : Int32))] [(.ref b1)])) (fun _ k => XS.aload X19.here hx rfl (hb hby at_100) rfl rfl k) ?_
      refine GoesW.step (B := T19.setTop (mkF m 103 #[.val (.int i0), .val (.int i1), .val (.int i2), .val (.int zs), .val (.long sp), .second, .val (.int ze), .val (.ref b1), .val (.long ((i2.toInt64) - (zs.toInt64))), .second, .val (.int (0 : Int32))] [(.int zs), (.ref b1)])) (fun _ k => XS.iloadN X19.here hx rfl (hb hby at_102) rfl k) ?_
      obtain ⟨cq20, kq20, qa20, qb20, qc20⟩ := isOf hZ2 eh19 Ex6
      obtain ⟨_, _, ⟨T20, L20, k20, n20⟩, -, X20, ⟨Lc20, hQ20, l20, y20, z20⟩, st20⟩ := X19.virtualBack hx (y := (⟨"com/example/errantry/errantry/workload/Task", "isOpenIn", "(I)Z"⟩ : MethodName)) (z := (⟨"com/example/errantry/errantry/workload/Task", "isOpenIn", "(I)Z"⟩ : MethodName)) hown2 (mvT hZ2 (hw _ (List.mem_of_getElem? (i := 45) rfl))) (mvT hZ2 (hw _ (List.mem_of_getElem? (i := 46) rfl))) (notFace_of_selects (args := #[]) (mvT hZ2 (hw _ (List.mem_of_getElem? (i := 48) rfl)))) (mvT hZ2 (hw _ (List.mem_of_getElem? (i := 48) rfl))) (mvT hZ2 (hw _ (List.mem_of_getElem? (i := 47) rfl))) (by decide) (backOf (W := 0) (rmo1 l Z a0 hw [] b1 zs zs ze T6.heap n0 O_6 z3 z2 Fc6_start Fc6_end) hZ2 (hw _ (List.mem_of_getElem? (i := 49) rfl)) (hw _ (List.mem_of_getElem? (i := 4) rfl)) (by decide) (by decide)) qa20 qc20 (g := (mkF m 103 #[.val (.int i0), .val (.int i1), .val (.int i2), .val (.int zs), .val (.long sp), .second, .val (.int ze), .val (.ref b1), .val (.long ((i2.toInt64) - (zs.toInt64))), .second, .val (.int (0 : Int32))] [(.int zs), (.ref b1)])) rfl (by rw [hml]; rfl) (Steps.refl _) (argsL := [(.int zs)]) (rest := []) (lenOf pd_3 rfl) rfl (by show 2 * 0 + _ ≤ _; exact Nat.le_of_eq rfl) (hb hby at_103) (fun _ _ => ⟨rfl, eh19, (by decide : 4 + 0 ≤ _), (by decide : 15 + 0 ≤ _)⟩)
      dsimp only [Pt.U, Pt.locs, Pt.cells, Pt.slots] at X20 l20 y20 z20 st20 hQ20
      subst l20 y20 z20
      obtain ⟨rfl, Nq20, eh20⟩ := hQ20
      have N20 := Fr.app N19 Nq20
      refine GoesW.via (B := T20.setTop (mkF m 106 #[.val (.int i0), .val (.int i1), .val (.int i2), .val (.int zs), .val (.long sp), .second, .val (.int ze), .val (.ref b1), .val (.long ((i2.toInt64) - (zs.toInt64))), .second, .val (.int (0 : Int32))] [(.int (1 : Int32))])) st20 ?_
      refine GoesW.step (B := T20.setTop (mkF m 109 #[.val (.int i0), .val (.int i1), .val (.int i2), .val (.int zs), .val (.long sp), .second, .val (.int ze), .val (.ref b1), .val (.long ((i2.toInt64) - (zs.toInt64))), .second, .val (.int (0 : Int32))] [])) (fun _ k => XS.ifNo X20.here hx rfl (hb hby at_106) rfl ((if0 _ _).trans (feq (by decide)).1) k) ?_
      refine GoesW.step (B := T20.setTop (mkF m 111 #[.val (.int i0), .val (.int i1), .val (.int i2), .val (.int zs), .val (.long sp), .second, .val (.int ze), .val (.ref b1), .val (.long ((i2.toInt64) - (zs.toInt64))), .second, .val (.int (0 : Int32))] [(.ref b1)])) (fun _ k => XS.aload X20.here hx rfl (hb hby at_109) rfl rfl k) ?_
      refine GoesW.step (B := T20.setTop (mkF m 113 #[.val (.int i0), .val (.int i1), .val (.int i2), .val (.int zs), .val (.long sp), .second, .val (.int ze), .val (.ref b1), .val (.long ((i2.toInt64) - (zs.toInt64))), .second, .val (.int (0 : Int32))] [(.int ze), (.ref b1)])) (fun _ k => XS.iload X20.here hx rfl (hb hby at_111) rfl k) ?_
      obtain ⟨cq21, kq21, qa21, qb21, qc21⟩ := isOf hZ2 eh20 Ex6
      obtain ⟨_, _, ⟨T21, L21, k21, n21⟩, -, X21, ⟨Lc21, hQ21, l21, y21, z21⟩, st21⟩ := X20.virtualBack hx (y := (⟨"com/example/errantry/errantry/workload/Task", "isOpenIn", "(I)Z"⟩ : MethodName)) (z := (⟨"com/example/errantry/errantry/workload/Task", "isOpenIn", "(I)Z"⟩ : MethodName)) hown2 (mvT hZ2 (hw _ (List.mem_of_getElem? (i := 45) rfl))) (mvT hZ2 (hw _ (List.mem_of_getElem? (i := 46) rfl))) (notFace_of_selects (args := #[]) (mvT hZ2 (hw _ (List.mem_of_getElem? (i := 48) rfl)))) (mvT hZ2 (hw _ (List.mem_of_getElem? (i := 48) rfl))) (mvT hZ2 (hw _ (List.mem_of_getElem? (i := 47) rfl))) (by decide) (backOf (W := 0) (rmo1 l Z a0 hw [] b1 ze zs ze T6.heap n0 O_6 z2 z4 Fc6_start Fc6_end) hZ2 (hw _ (List.mem_of_getElem? (i := 49) rfl)) (hw _ (List.mem_of_getElem? (i := 4) rfl)) (by decide) (by decide)) qa21 qc21 (g := (mkF m 113 #[.val (.int i0), .val (.int i1), .val (.int i2), .val (.int zs), .val (.long sp), .second, .val (.int ze), .val (.ref b1), .val (.long ((i2.toInt64) - (zs.toInt64))), .second, .val (.int (0 : Int32))] [(.int ze), (.ref b1)])) rfl (by rw [hml]; rfl) (Steps.refl _) (argsL := [(.int ze)]) (rest := []) (lenOf pd_3 rfl) rfl (by show 2 * 0 + _ ≤ _; exact Nat.le_of_eq rfl) (hb hby at_113) (fun _ _ => ⟨rfl, eh20, (by decide : 4 + 0 ≤ _), (by decide : 15 + 0 ≤ _)⟩)
      dsimp only [Pt.U, Pt.locs, Pt.cells, Pt.slots] at X21 l21 y21 z21 st21 hQ21
      subst l21 y21 z21
      obtain ⟨rfl, Nq21, eh21⟩ := hQ21
      have N21 := Fr.app N20 Nq21
      refine GoesW.via (B := T21.setTop (mkF m 116 #[.val (.int i0), .val (.int i1), .val (.int i2), .val (.int zs), .val (.long sp), .second, .val (.int ze), .val (.ref b1), .val (.long ((i2.toInt64) - (zs.toInt64))), .second, .val (.int (0 : Int32))] [(.int (1 : Int32))])) st21 ?_
      refine GoesW.step (B := T21.setTop (mkF m 121 #[.val (.int i0), .val (.int i1), .val (.int i2), .val (.int zs), .val (.long sp), .second, .val (.int ze), .val (.ref b1), .val (.long ((i2.toInt64) - (zs.toInt64))), .second, .val (.int (0 : Int32))] [])) (fun _ k => XS.ifYes X21.here hx rfl (pc0 := 116) (pc' := 121) rfl (hb hby at_116) rfl ((if0 _ _).trans (feq (by decide)).2) (by decide) (by decide) k) ?_
      refine GoesW.step (B := T21.setTop (mkF m 123 #[.val (.int i0), .val (.int i1), .val (.int i2), .val (.int zs), .val (.long sp), .second, .val (.int ze), .val (.ref b1), .val (.long ((i2.toInt64) - (zs.toInt64))), .second, .val (.int (0 : Int32))] [(.ref b1)])) (fun _ k => XS.aload X21.here hx rfl (hb hby at_121) rfl rfl k) ?_
      refine GoesW.step (B := T21.setTop (mkF m 124 #[.val (.int i0), .val (.int i1), .val (.int i2), .val (.int zs), .val (.long sp), .second, .val (.int ze), .val (.ref b1), .val (.long ((i2.toInt64) - (zs.toInt64))), .second, .val (.int (0 : Int32))] [(.int zs), (.ref b1)])) (fun _ k => XS.iloadN X21.here hx rfl (hb hby at_123) rfl k) ?_
      refine GoesW.step (B := T21.setTop (mkF m 125 #[.val (.int i0), .val (.int i1), .val (.int i2), .val (.int zs), .val (.long sp), .second, .val (.int ze), .val (.ref b1), .val (.long ((i2.toInt64) - (zs.toInt64))), .second, .val (.int (0 : Int32))] [(.int (1 : Int32)), (.int zs), (.ref b1)])) (fun _ k => XS.iconst X21.here hx rfl (hb hby at_124) k) ?_
      refine GoesW.step (B := T21.setTop (mkF m 126 #[.val (.int i0), .val (.int i1), .val (.int i2), .val (.int zs), .val (.long sp), .second, .val (.int ze), .val (.ref b1), .val (.long ((i2.toInt64) - (zs.toInt64))), .second, .val (.int (0 : Int32))] [(.int (zs - (1 : Int32))), (.ref b1)])) (fun _ k => XS.isub X21.here hx rfl (hb hby at_125) rfl k) ?_
      obtain ⟨cq22, kq22, qa22, qb22, qc22⟩ := isOf hZ2 eh21 Ex6
      obtain ⟨_, _, ⟨T22, L22, k22, n22⟩, -, X22, ⟨Lc22, hQ22, l22, y22, z22⟩, st22⟩ := X21.virtualBack hx (y := (⟨"com/example/errantry/errantry/workload/Task", "isOpenIn", "(I)Z"⟩ : MethodName)) (z := (⟨"com/example/errantry/errantry/workload/Task", "isOpenIn", "(I)Z"⟩ : MethodName)) hown2 (mvT hZ2 (hw _ (List.mem_of_getElem? (i := 45) rfl))) (mvT hZ2 (hw _ (List.mem_of_getElem? (i := 46) rfl))) (notFace_of_selects (args := #[]) (mvT hZ2 (hw _ (List.mem_of_getElem? (i := 48) rfl)))) (mvT hZ2 (hw _ (List.mem_of_getElem? (i := 48) rfl))) (mvT hZ2 (hw _ (List.mem_of_getElem? (i := 47) rfl))) (by decide) (backOf (W := 0) (rmoA l Z a0 hw [] b1 (zs - (1 : Int32)) zs ze T6.heap n0 O_6 (own_dec z0) Fc6_start Fc6_end) hZ2 (hw _ (List.mem_of_getElem? (i := 49) rfl)) (hw _ (List.mem_of_getElem? (i := 4) rfl)) (by decide) (by decide)) qa22 qc22 (g := (mkF m 126 #[.val (.int i0), .val (.int i1), .val (.int i2), .val (.int zs), .val (.long sp), .second, .val (.int ze), .val (.ref b1), .val (.long ((i2.toInt64) - (zs.toInt64))), .second, .val (.int (0 : Int32))] [(.int (zs - (1 : Int32))), (.ref b1)])) rfl (by rw [hml]; rfl) (Steps.refl _) (argsL := [(.int (zs - (1 : Int32)))]) (rest := []) (lenOf pd_3 rfl) rfl (by show 2 * 0 + _ ≤ _; exact Nat.le_of_eq rfl) (hb hby at_126) (fun _ _ => ⟨rfl, eh21, (by decide : 4 + 0 ≤ _), (by decide : 15 + 0 ≤ _)⟩)
      dsimp only [Pt.U, Pt.locs, Pt.cells, Pt.slots] at X22 l22 y22 z22 st22 hQ22
      subst l22 y22 z22
      obtain ⟨rfl, Nq22, eh22⟩ := hQ22
      have N22 := Fr.app N21 Nq22
      refine GoesW.via (B := T22.setTop (mkF m 129 #[.val (.int i0), .val (.int i1), .val (.int i2), .val (.int zs), .val (.long sp), .second, .val (.int ze), .val (.ref b1), .val (.long ((i2.toInt64) - (zs.toInt64))), .second, .val (.int (0 : Int32))] [(.int (0 : Int32))])) st22 ?_
      refine GoesW.step (B := T22.setTop (mkF m 134 #[.val (.int i0), .val (.int i1), .val (.int i2), .val (.int zs), .val (.long sp), .second, .val (.int ze), .val (.ref b1), .val (.long ((i2.toInt64) - (zs.toInt64))), .second, .val (.int (0 : Int32))] [])) (fun _ k => XS.ifYes X22.here hx rfl (pc0 := 129) (pc' := 134) rfl (hb hby at_129) rfl ((if0 _ _).trans (teq (by decide)).1) (by decide) (by decide) k) ?_
      refine GoesW.step (B := T22.setTop (mkF m 136 #[.val (.int i0), .val (.int i1), .val (.int i2), .val (.int zs), .val (.long sp), .second, .val (.int ze), .val (.ref b1), .val (.long ((i2.toInt64) - (zs.toInt64))), .second, .val (.int (0 : Int32))] [(.int ze)])) (fun _ k => XS.iload X22.here hx rfl (hb hby at_134) rfl k) ?_
      refine GoesW.step (B := T22.setTop (mkF m 138 #[.val (.int i0), .val (.int i1), .val (.int i2), .val (.int zs), .val (.long sp), .second, .val (.int ze), .val (.ref b1), .val (.long ((i2.toInt64) - (zs.toInt64))), .second, .val (.int (0 : Int32))] [(.int (2147483647 : Int32)), (.int ze)])) (X22.ldcInt hx hown2 (mvT hZ2 (hw _ (List.mem_of_getElem? (i := 0) rfl))) (g := (mkF m 136 #[.val (.int i0), .val (.int i1), .val (.int i2), .val (.int zs), .val (.long sp), .second, .val (.int ze), .val (.ref b1), .val (.long ((i2.toInt64) - (zs.toInt64))), .second, .val (.int (0 : Int32))] [(.int ze)])) rfl (hb hby at_136)) ?_
      by_cases hc138_22 : ze < (2147483647 : Int32)
      · refine GoesW.step (B := T22.setTop (mkF m 141 #[.val (.int i0), .val (.int i1), .val (.int i2), .val (.int zs), .val (.long sp), .second, .val (.int ze), .val (.ref b1), .val (.long ((i2.toInt64) - (zs.toInt64))), .second, .val (.int (0 : Int32))] [])) (fun _ k => XS.icmpNo X22.here hx rfl (hb hby at_138) rfl (tlt hc138_22).2.1 k) ?_
        obtain ⟨y1, y2⟩ := own_inc hc138_22
        have y3 : ¬ (ze + (1 : Int32)) < zs := own_nlt (by omega)
        refine GoesW.step (B := T22.setTop (mkF m 143 #[.val (.int i0), .val (.int i1), .val (.int i2), .val (.int zs), .val (.long sp), .second, .val (.int ze), .val (.ref b1), .val (.long ((i2.toInt64) - (zs.toInt64))), .second, .val (.int (0 : Int32))] [(.ref b1)])) (fun _ k => XS.aload X22.here hx rfl (hb hby at_141) rfl rfl k) ?_
        refine GoesW.step (B := T22.setTop (mkF m 145 #[.val (.int i0), .val (.int i1), .val (.int i2), .val (.int zs), .val (.long sp), .second, .val (.int ze), .val (.ref b1), .val (.long ((i2.toInt64) - (zs.toInt64))), .second, .val (.int (0 : Int32))] [(.int ze), (.ref b1)])) (fun _ k => XS.iload X22.here hx rfl (hb hby at_143) rfl k) ?_
        refine GoesW.step (B := T22.setTop (mkF m 146 #[.val (.int i0), .val (.int i1), .val (.int i2), .val (.int zs), .val (.long sp), .second, .val (.int ze), .val (.ref b1), .val (.long ((i2.toInt64) - (zs.toInt64))), .second, .val (.int (0 : Int32))] [(.int (1 : Int32)), (.int ze), (.ref b1)])) (fun _ k => XS.iconst X22.here hx rfl (hb hby at_145) k) ?_
        refine GoesW.step (B := T22.setTop (mkF m 147 #[.val (.int i0), .val (.int i1), .val (.int i2), .val (.int zs), .val (.long sp), .second, .val (.int ze), .val (.ref b1), .val (.long ((i2.toInt64) - (zs.toInt64))), .second, .val (.int (0 : Int32))] [(.int (ze + (1 : Int32))), (.ref b1)])) (fun _ k => XS.iadd X22.here hx rfl (hb hby at_146) rfl k) ?_
        obtain ⟨cq24, kq24, qa24, qb24, qc24⟩ := isOf hZ2 eh22 Ex6
        obtain ⟨_, _, ⟨T24, L24, k24, n24⟩, -, X24, ⟨Lc24, hQ24, l24, y24, z24⟩, st24⟩ := X22.virtualBack hx (y := (⟨"com/example/errantry/errantry/workload/Task", "isOpenIn", "(I)Z"⟩ : MethodName)) (z := (⟨"com/example/errantry/errantry/workload/Task", "isOpenIn", "(I)Z"⟩ : MethodName)) hown2 (mvT hZ2 (hw _ (List.mem_of_getElem? (i := 45) rfl))) (mvT hZ2 (hw _ (List.mem_of_getElem? (i := 46) rfl))) (notFace_of_selects (args := #[]) (mvT hZ2 (hw _ (List.mem_of_getElem? (i := 48) rfl)))) (mvT hZ2 (hw _ (List.mem_of_getElem? (i := 48) rfl))) (mvT hZ2 (hw _ (List.mem_of_getElem? (i := 47) rfl))) (by decide) (backOf (W := 0) (rmoB l Z a0 hw [] b1 (ze + (1 : Int32)) zs ze T6.heap n0 O_6 y3 y1 Fc6_start Fc6_end) hZ2 (hw _ (List.mem_of_getElem? (i := 49) rfl)) (hw _ (List.mem_of_getElem? (i := 4) rfl)) (by decide) (by decide)) qa24 qc24 (g := (mkF m 147 #[.val (.int i0), .val (.int i1), .val (.int i2), .val (.int zs), .val (.long sp), .second, .val (.int ze), .val (.ref b1), .val (.long ((i2.toInt64) - (zs.toInt64))), .second, .val (.int (0 : Int32))] [(.int (ze + (1 : Int32))), (.ref b1)])) rfl (by rw [hml]; rfl) (Steps.refl _) (argsL := [(.int (ze + (1 : Int32)))]) (rest := []) (lenOf pd_3 rfl) rfl (by show 2 * 0 + _ ≤ _; exact Nat.le_of_eq rfl) (hb hby at_147) (fun _ _ => ⟨rfl, eh22, (by decide : 4 + 0 ≤ _), (by decide : 15 + 0 ≤ _)⟩)
        dsimp only [Pt.U, Pt.locs, Pt.cells, Pt.slots] at X24 l24 y24 z24 st24 hQ24
        subst l24 y24 z24
        obtain ⟨rfl, Nq24, eh24⟩ := hQ24
        have N24 := Fr.app N22 Nq24
        refine GoesW.via (B := T24.setTop (mkF m 150 #[.val (.int i0), .val (.int i1), .val (.int i2), .val (.int zs), .val (.long sp), .second, .val (.int ze), .val (.ref b1), .val (.long ((i2.toInt64) - (zs.toInt64))), .second, .val (.int (0 : Int32))] [(.int (0 : Int32))])) st24 ?_
        refine GoesW.step (B := T24.setTop (mkF m 155 #[.val (.int i0), .val (.int i1), .val (.int i2), .val (.int zs), .val (.long sp), .second, .val (.int ze), .val (.ref b1), .val (.long ((i2.toInt64) - (zs.toInt64))), .second, .val (.int (0 : Int32))] [])) (fun _ k => XS.ifYes X24.here hx rfl (pc0 := 150) (pc' := 155) rfl (hb hby at_150) rfl ((if0 _ _).trans (teq (by decide)).1) (by decide) (by decide) k) ?_
        refine GoesW.step (B := T24.setTop (mkF m 156 #[.val (.int i0), .val (.int i1), .val (.int i2), .val (.int zs), .val (.long sp), .second, .val (.int ze), .val (.ref b1), .val (.long ((i2.toInt64) - (zs.toInt64))), .second, .val (.int (0 : Int32))] [(.int (1 : Int32))])) (fun _ k => XS.iconst X24.here hx rfl (hb hby at_155) k) ?_
        exact GoesW.retN X24 hS2 (Nat.le_trans (Nat.le_trans (Nat.le_trans hk2 E3.1) Kp5.1) Kp6.1) hx eh24 (t := .boolean) Bd.returns (by simp) hlk (hb hby at_156) (by decide) (by decide) (⟨rfl, N24⟩)
      · refine GoesW.step (B := T22.setTop (mkF m 155 #[.val (.int i0), .val (.int i1), .val (.int i2), .val (.int zs), .val (.long sp), .second, .val (.int ze), .val (.ref b1), .val (.long ((i2.toInt64) - (zs.toInt64))), .second, .val (.int (0 : Int32))] [])) (fun _ k => XS.icmpYes X22.here hx rfl (pc0 := 138) (pc' := 155) rfl (hb hby at_138) rfl (flt hc138_22).2.1 (by decide) (by decide) k) ?_
        refine GoesW.step (B := T22.setTop (mkF m 156 #[.val (.int i0), .val (.int i1), .val (.int i2), .val (.int zs), .val (.long sp), .second, .val (.int ze), .val (.ref b1), .val (.long ((i2.toInt64) - (zs.toInt64))), .second, .val (.int (0 : Int32))] [(.int (1 : Int32))])) (fun _ k => XS.iconst X22.here hx rfl (hb hby at_155) k) ?_
        exact GoesW.retN X22 hS2 (Nat.le_trans (Nat.le_trans (Nat.le_trans hk2 E3.1) Kp5.1) Kp6.1) hx eh22 (t := .boolean) Bd.returns (by simp) hlk (hb hby at_156) (by decide) (by decide) (⟨rfl, N22⟩)
    · refine GoesW.step (B := T6.setTop (mkF m 63 #[.val (.int i0), .val (.int i1), .val (.int i2), .val (.int zs), .val (.long sp), .second, .val (.int ze), .val (.ref b1), .val (.long ((i2.toInt64) - (zs.toInt64))), .second, .unset] [(.long ((i2.toInt64) - (zs.toInt64)))])) (fun _ k => XS.lload X6.here hx rfl (hb hby at_61) rfl k) ?_
      refine GoesW.step (B := T6.setTop (mkF m 64 #[.val (.int i0), .val (.int i1), .val (.int i2), .val (.int zs), .val (.long sp), .second, .val (.int ze), .val (.ref b1), .val (.long ((i2.toInt64) - (zs.toInt64))), .second, .unset] [(.long (0 : Int64)), (.long ((i2.toInt64) - (zs.toInt64)))])) (fun _ k => XS.lconst X6.here hx rfl (hb hby at_63) k) ?_
      refine GoesW.step (B := T6.setTop (mkF m 65 #[.val (.int i0), .val (.int i1), .val (.int i2), .val (.int zs), .val (.long sp), .second, .val (.int ze), .val (.ref b1), .val (.long ((i2.toInt64) - (zs.toInt64))), .second, .unset] [(.int (lcmpW ((i2.toInt64) - (zs.toInt64)) (0 : Int64)))])) (fun _ k => XS.lcmp X6.here hx rfl (hb hby at_64) rfl k) ?_
      refine GoesW.step (B := T6.setTop (mkF m 68 #[.val (.int i0), .val (.int i1), .val (.int i2), .val (.int zs), .val (.long sp), .second, .val (.int ze), .val (.ref b1), .val (.long ((i2.toInt64) - (zs.toInt64))), .second, .unset] [])) (fun _ k => XS.ifNo X6.here hx rfl (hb hby at_65) rfl ((if0 _ _).trans (flt (fun q => (own_o2 hA) ((lw_lt _ _).mp q))).1) k) ?_
      refine GoesW.step (B := T6.setTop (mkF m 70 #[.val (.int i0), .val (.int i1), .val (.int i2), .val (.int zs), .val (.long sp), .second, .val (.int ze), .val (.ref b1), .val (.long ((i2.toInt64) - (zs.toInt64))), .second, .unset] [(.long ((i2.toInt64) - (zs.toInt64)))])) (fun _ k => XS.lload X6.here hx rfl (hb hby at_68) rfl k) ?_
      refine GoesW.step (B := T6.setTop (mkF m 72 #[.val (.int i0), .val (.int i1), .val (.int i2), .val (.int zs), .val (.long sp), .second, .val (.int ze), .val (.ref b1), .val (.long ((i2.toInt64) - (zs.toInt64))), .second, .unset] [(.int ze), (.long ((i2.toInt64) - (zs.toInt64)))])) (fun _ k => XS.iload X6.here hx rfl (hb hby at_70) rfl k) ?_
      refine GoesW.step (B := T6.setTop (mkF m 73 #[.val (.int i0), .val (.int i1), .val (.int i2), .val (.int zs), .val (.long sp), .second, .val (.int ze), .val (.ref b1), .val (.long ((i2.toInt64) - (zs.toInt64))), .second, .unset] [(.long (ze.toInt64)), (.long ((i2.toInt64) - (zs.toInt64)))])) (fun _ k => XS.i2l X6.here hx rfl (hb hby at_72) rfl k) ?_
      refine GoesW.step (B := T6.setTop (mkF m 74 #[.val (.int i0), .val (.int i1), .val (.int i2), .val (.int zs), .val (.long sp), .second, .val (.int ze), .val (.ref b1), .val (.long ((i2.toInt64) - (zs.toInt64))), .second, .unset] [(.int zs), (.long (ze.toInt64)), (.long ((i2.toInt64) - (zs.toInt64)))])) (fun _ k => XS.iloadN X6.here hx rfl (hb hby at_73) rfl k) ?_
      refine GoesW.step (B := T6.setTop (mkF m 75 #[.val (.int i0), .val (.int i1), .val (.int i2), .val (.int zs), .val (.long sp), .second, .val (.int ze), .val (.ref b1), .val (.long ((i2.toInt64) - (zs.toInt64))), .second, .unset] [(.long (zs.toInt64)), (.long (ze.toInt64)), (.long ((i2.toInt64) - (zs.toInt64)))])) (fun _ k => XS.i2l X6.here hx rfl (hb hby at_74) rfl k) ?_
      refine GoesW.step (B := T6.setTop (mkF m 76 #[.val (.int i0), .val (.int i1), .val (.int i2), .val (.int zs), .val (.long sp), .second, .val (.int ze), .val (.ref b1), .val (.long ((i2.toInt64) - (zs.toInt64))), .second, .unset] [(.long ((ze.toInt64) - (zs.toInt64))), (.long ((i2.toInt64) - (zs.toInt64)))])) (fun _ k => XS.lsub X6.here hx rfl (hb hby at_75) rfl k) ?_
      refine GoesW.step (B := T6.setTop (mkF m 77 #[.val (.int i0), .val (.int i1), .val (.int i2), .val (.int zs), .val (.long sp), .second, .val (.int ze), .val (.ref b1), .val (.long ((i2.toInt64) - (zs.toInt64))), .second, .unset] [(.int (lcmpW ((i2.toInt64) - (zs.toInt64)) ((ze.toInt64) - (zs.toInt64))))])) (fun _ k => XS.lcmp X6.here hx rfl (hb hby at_76) rfl k) ?_
      refine GoesW.step (B := T6.setTop (mkF m 80 #[.val (.int i0), .val (.int i1), .val (.int i2), .val (.int zs), .val (.long sp), .second, .val (.int ze), .val (.ref b1), .val (.long ((i2.toInt64) - (zs.toInt64))), .second, .unset] [])) (fun _ k => XS.ifNo X6.here hx rfl (hb hby at_77) rfl ((if0 _ _).trans (flt (fun q => (own_o4 hB) ((lw_gt _ _).mp q))).2.2.1) k) ?_
      refine GoesW.step (B := T6.setTop (mkF m 81 #[.val (.int i0), .val (.int i1), .val (.int i2), .val (.int zs), .val (.long sp), .second, .val (.int ze), .val (.ref b1), .val (.long ((i2.toInt64) - (zs.toInt64))), .second, .unset] [(.int (1 : Int32))])) (fun _ k => XS.iconst X6.here hx rfl (hb hby at_80) k) ?_
      refine GoesW.step (B := T6.setTop (mkF m 85 #[.val (.int i0), .val (.int i1), .val (.int i2), .val (.int zs), .val (.long sp), .second, .val (.int ze), .val (.ref b1), .val (.long ((i2.toInt64) - (zs.toInt64))), .second, .unset] [(.int (1 : Int32))])) (fun _ k => XS.goto X6.here hx rfl (pc0 := 81) (pc' := 85) rfl (hb hby at_81) (by decide) (by decide) k) ?_
      refine GoesW.step (B := T6.setTop (mkF m 87 #[.val (.int i0), .val (.int i1), .val (.int i2), .val (.int zs), .val (.long sp), .second, .val (.int ze), .val (.ref b1), .val (.long ((i2.toInt64) - (zs.toInt64))), .second, .val (.int (1 : Int32))] [])) (fun _ k => XS.istore X6.here hx rfl (hb hby at_85) rfl (l' := #[.val (.int i0), .val (.int i1), .val (.int i2), .val (.int zs), .val (.long sp), .second, .val (.int ze), .val (.ref b1), .val (.long ((i2.toInt64) - (zs.toInt64))), .second, .val (.int (1 : Int32))]) rfl k) ?_
      refine GoesW.step (B := T6.setTop (mkF m 89 #[.val (.int i0), .val (.int i1), .val (.int i2), .val (.int zs), .val (.long sp), .second, .val (.int ze), .val (.ref b1), .val (.long ((i2.toInt64) - (zs.toInt64))), .second, .val (.int (1 : Int32))] [(.ref b1)])) (fun _ k => XS.aload X6.here hx rfl (hb hby at_87) rfl rfl k) ?_
      refine GoesW.step (B := T6.setTop (mkF m 90 #[.val (.int i0), .val (.int i1), .val (.int i2), .val (.int zs), .val (.long sp), .second, .val (.int ze), .val (.ref b1), .val (.long ((i2.toInt64) - (zs.toInt64))), .second, .val (.int (1 : Int32))] [(.int i2), (.ref b1)])) (fun _ k => XS.iloadN X6.here hx rfl (hb hby at_89) rfl k) ?_
      obtain ⟨cq25, kq25, qa25, qb25, qc25⟩ := isOf hZ2 rfl Ex6
      obtain ⟨_, _, ⟨T25, L25, k25, n25⟩, -, X25, ⟨Lc25, hQ25, l25, y25, z25⟩, st25⟩ := X6.virtualBack hx (y := (⟨"com/example/errantry/errantry/workload/Task", "isOpenIn", "(I)Z"⟩ : MethodName)) (z := (⟨"com/example/errantry/errantry/workload/Task", "isOpenIn", "(I)Z"⟩ : MethodName)) hown2 (mvT hZ2 (hw _ (List.mem_of_getElem? (i := 45) rfl))) (mvT hZ2 (hw _ (List.mem_of_getElem? (i := 46) rfl))) (notFace_of_selects (args := #[]) (mvT hZ2 (hw _ (List.mem_of_getElem? (i := 48) rfl)))) (mvT hZ2 (hw _ (List.mem_of_getElem? (i := 48) rfl))) (mvT hZ2 (hw _ (List.mem_of_getElem? (i := 47) rfl))) (by decide) (backOf (W := 0) (rmo1 l Z a0 hw [] b1 i2 zs ze T6.heap n0 O_6 hA hB Fc6_start Fc6_end) hZ2 (hw _ (List.mem_of_getElem? (i := 49) rfl)) (hw _ (List.mem_of_getElem? (i := 4) rfl)) (by decide) (by decide)) qa25 qc25 (g := (mkF m 90 #[.val (.int i0), .val (.int i1), .val (.int i2), .val (.int zs), .val (.long sp), .second, .val (.int ze), .val (.ref b1), .val (.long ((i2.toInt64) - (zs.toInt64))), .second, .val (.int (1 : Int32))] [(.int i2), (.ref b1)])) rfl (by rw [hml]; rfl) (Steps.refl _) (argsL := [(.int i2)]) (rest := []) (lenOf pd_3 rfl) rfl (by show 2 * 0 + _ ≤ _; exact Nat.le_of_eq rfl) (hb hby at_90) (fun _ _ => ⟨rfl, rfl, (by decide : 4 + 0 ≤ _), (by decide : 15 + 0 ≤ _)⟩)
      dsimp only [Pt.U, Pt.locs, Pt.cells, Pt.slots] at X25 l25 y25 z25 st25 hQ25
      subst l25 y25 z25
      obtain ⟨rfl, Nq25, eh25⟩ := hQ25
      have N25 := Fr.app N6 Nq25
      refine GoesW.via (B := T25.setTop (mkF m 93 #[.val (.int i0), .val (.int i1), .val (.int i2), .val (.int zs), .val (.long sp), .second, .val (.int ze), .val (.ref b1), .val (.long ((i2.toInt64) - (zs.toInt64))), .second, .val (.int (1 : Int32))] [(.int (1 : Int32))])) st25 ?_
      refine GoesW.step (B := T25.setTop (mkF m 95 #[.val (.int i0), .val (.int i1), .val (.int i2), .val (.int zs), .val (.long sp), .second, .val (.int ze), .val (.ref b1), .val (.long ((i2.toInt64) - (zs.toInt64))), .second, .val (.int (1 : Int32))] [(.int (1 : Int32)), (.int (1 : Int32))])) (fun _ k => XS.iload X25.here hx rfl (hb hby at_93) rfl k) ?_
      refine GoesW.step (B := T25.setTop (mkF m 100 #[.val (.int i0), .val (.int i1), .val (.int i2), .val (.int zs), .val (.long sp), .second, .val (.int ze), .val (.ref b1), .val (.long ((i2.toInt64) - (zs.toInt64))), .second, .val (.int (1 : Int32))] [])) (fun _ k => XS.icmpYes X25.here hx rfl (pc0 := 95) (pc' := 100) rfl (hb hby at_95) rfl (teq (by decide)).1 (by decide) (by decide) k) ?_
      refine GoesW.step (B := T25.setTop (mkF m 102 #[.val (.int i0), .val (.int i1), .val (.int i2), .val (.int zs), .val (.long sp), .second, .val (.int ze), .val (.ref b1), .val (.long ((i2.toInt64) - (zs.toInt64))), .second, .val (.int (1 : Int32))] [(.ref b1)])) (fun _ k => XS.aload X25.here hx rfl (hb hby at_100) rfl rfl k) ?_
      refine GoesW.step (B := T25.setTop (mkF m 103 #[.val (.int i0), .val (.int i1), .val (.int i2), .val (.int zs), .val (.long sp), .second, .val (.int ze), .val (.ref b1), .val (.long ((i2.toInt64) - (zs.toInt64))), .second, .val (.int (1 : Int32))] [(.int zs), (.ref b1)])) (fun _ k => XS.iloadN X25.here hx rfl (hb hby at_102) rfl k) ?_
      obtain ⟨cq26, kq26, qa26, qb26, qc26⟩ := isOf hZ2 eh25 Ex6
      obtain ⟨_, _, ⟨T26, L26, k26, n26⟩, -, X26, ⟨Lc26, hQ26, l26, y26, z26⟩, st26⟩ := X25.virtualBack hx (y := (⟨"com/example/errantry/errantry/workload/Task", "isOpenIn", "(I)Z"⟩ : MethodName)) (z := (⟨"com/example/errantry/errantry/workload/Task", "isOpenIn", "(I)Z"⟩ : MethodName)) hown2 (mvT hZ2 (hw _ (List.mem_of_getElem? (i := 45) rfl))) (mvT hZ2 (hw _ (List.mem_of_getElem? (i := 46) rfl))) (notFace_of_selects (args := #[]) (mvT hZ2 (hw _ (List.mem_of_getElem? (i := 48) rfl)))) (mvT hZ2 (hw _ (List.mem_of_getElem? (i := 48) rfl))) (mvT hZ2 (hw _ (List.mem_of_getElem? (i := 47) rfl))) (by decide) (backOf (W := 0) (rmo1 l Z a0 hw [] b1 zs zs ze T6.heap n0 O_6 z3 z2 Fc6_start Fc6_end) hZ2 (hw _ (List.mem_of_getElem? (i := 49) rfl)) (hw _ (List.mem_of_getElem? (i := 4) rfl)) (by decide) (by decide)) qa26 qc26 (g := (mkF m 103 #[.val (.int i0), .val (.int i1), .val (.int i2), .val (.int zs), .val (.long sp), .second, .val (.int ze), .val (.ref b1), .val (.long ((i2.toInt64) - (zs.toInt64))), .second, .val (.int (1 : Int32))] [(.int zs), (.ref b1)])) rfl (by rw [hml]; rfl) (Steps.refl _) (argsL := [(.int zs)]) (rest := []) (lenOf pd_3 rfl) rfl (by show 2 * 0 + _ ≤ _; exact Nat.le_of_eq rfl) (hb hby at_103) (fun _ _ => ⟨rfl, eh25, (by decide : 4 + 0 ≤ _), (by decide : 15 + 0 ≤ _)⟩)
      dsimp only [Pt.U, Pt.locs, Pt.cells, Pt.slots] at X26 l26 y26 z26 st26 hQ26
      subst l26 y26 z26
      obtain ⟨rfl, Nq26, eh26⟩ := hQ26
      have N26 := Fr.app N25 Nq26
      refine GoesW.via (B := T26.setTop (mkF m 106 #[.val (.int i0), .val (.int i1), .val (.int i2), .val (.int zs), .val (.long sp), .second, .val (.int ze), .val (.ref b1), .val (.long ((i2.toInt64) - (zs.toInt64))), .second, .val (.int (1 : Int32))] [(.int (1 : Int32))])) st26 ?_
      refine GoesW.step (B := T26.setTop (mkF m 109 #[.val (.int i0), .val (.int i1), .val (.int i2), .val (.int zs), .val (.long sp), .second, .val (.int ze), .val (.ref b1), .val (.long ((i2.toInt64) - (zs.toInt64))), .second, .val (.int (1 : Int32))] [])) (fun _ k => XS.ifNo X26.here hx rfl (hb hby at_106) rfl ((if0 _ _).trans (feq (by decide)).1) k) ?_
      refine GoesW.step (B := T26.setTop (mkF m 111 #[.val (.int i0), .val (.int i1), .val (.int i2), .val (.int zs), .val (.long sp), .second, .val (.int ze), .val (.ref b1), .val (.long ((i2.toInt64) - (zs.toInt64))), .second, .val (.int (1 : Int32))] [(.ref b1)])) (fun _ k => XS.aload X26.here hx rfl (hb hby at_109) rfl rfl k) ?_
      refine GoesW.step (B := T26.setTop (mkF m 113 #[.val (.int i0), .val (.int i1), .val (.int i2), .val (.int zs), .val (.long sp), .second, .val (.int ze), .val (.ref b1), .val (.long ((i2.toInt64) - (zs.toInt64))), .second, .val (.int (1 : Int32))] [(.int ze), (.ref b1)])) (fun _ k => XS.iload X26.here hx rfl (hb hby at_111) rfl k) ?_
      obtain ⟨cq27, kq27, qa27, qb27, qc27⟩ := isOf hZ2 eh26 Ex6
      obtain ⟨_, _, ⟨T27, L27, k27, n27⟩, -, X27, ⟨Lc27, hQ27, l27, y27, z27⟩, st27⟩ := X26.virtualBack hx (y := (⟨"com/example/errantry/errantry/workload/Task", "isOpenIn", "(I)Z"⟩ : MethodName)) (z := (⟨"com/example/errantry/errantry/workload/Task", "isOpenIn", "(I)Z"⟩ : MethodName)) hown2 (mvT hZ2 (hw _ (List.mem_of_getElem? (i := 45) rfl))) (mvT hZ2 (hw _ (List.mem_of_getElem? (i := 46) rfl))) (notFace_of_selects (args := #[]) (mvT hZ2 (hw _ (List.mem_of_getElem? (i := 48) rfl)))) (mvT hZ2 (hw _ (List.mem_of_getElem? (i := 48) rfl))) (mvT hZ2 (hw _ (List.mem_of_getElem? (i := 47) rfl))) (by decide) (backOf (W := 0) (rmo1 l Z a0 hw [] b1 ze zs ze T6.heap n0 O_6 z2 z4 Fc6_start Fc6_end) hZ2 (hw _ (List.mem_of_getElem? (i := 49) rfl)) (hw _ (List.mem_of_getElem? (i := 4) rfl)) (by decide) (by decide)) qa27 qc27 (g := (mkF m 113 #[.val (.int i0), .val (.int i1), .val (.int i2), .val (.int zs), .val (.long sp), .second, .val (.int ze), .val (.ref b1), .val (.long ((i2.toInt64) - (zs.toInt64))), .second, .val (.int (1 : Int32))] [(.int ze), (.ref b1)])) rfl (by rw [hml]; rfl) (Steps.refl _) (argsL := [(.int ze)]) (rest := []) (lenOf pd_3 rfl) rfl (by show 2 * 0 + _ ≤ _; exact Nat.le_of_eq rfl) (hb hby at_113) (fun _ _ => ⟨rfl, eh26, (by decide : 4 + 0 ≤ _), (by decide : 15 + 0 ≤ _)⟩)
      dsimp only [Pt.U, Pt.locs, Pt.cells, Pt.slots] at X27 l27 y27 z27 st27 hQ27
      subst l27 y27 z27
      obtain ⟨rfl, Nq27, eh27⟩ := hQ27
      have N27 := Fr.app N26 Nq27
      refine GoesW.via (B := T27.setTop (mkF m 116 #[.val (.int i0), .val (.int i1), .val (.int i2), .val (.int zs), .val (.long sp), .second, .val (.int ze), .val (.ref b1), .val (.long ((i2.toInt64) - (zs.toInt64))), .second, .val (.int (1 : Int32))] [(.int (1 : Int32))])) st27 ?_
      refine GoesW.step (B := T27.setTop (mkF m 121 #[.val (.int i0), .val (.int i1), .val (.int i2), .val (.int zs), .val (.long sp), .second, .val (.int ze), .val (.ref b1), .val (.long ((i2.toInt64) - (zs.toInt64))), .second, .val (.int (1 : Int32))] [])) (fun _ k => XS.ifYes X27.here hx rfl (pc0 := 116) (pc' := 121) rfl (hb hby at_116) rfl ((if0 _ _).trans (feq (by decide)).2) (by decide) (by decide) k) ?_
      refine GoesW.step (B := T27.setTop (mkF m 123 #[.val (.int i0), .val (.int i1), .val (.int i2), .val (.int zs), .val (.long sp), .second, .val (.int ze), .val (.ref b1), .val (.long ((i2.toInt64) - (zs.toInt64))), .second, .val (.int (1 : Int32))] [(.ref b1)])) (fun _ k => XS.aload X27.here hx rfl (hb hby at_121) rfl rfl k) ?_
      refine GoesW.step (B := T27.setTop (mkF m 124 #[.val (.int i0), .val (.int i1), .val (.int i2), .val (.int zs), .val (.long sp), .second, .val (.int ze), .val (.ref b1), .val (.long ((i2.toInt64) - (zs.toInt64))), .second, .val (.int (1 : Int32))] [(.int zs), (.ref b1)])) (fun _ k => XS.iloadN X27.here hx rfl (hb hby at_123) rfl k) ?_
      refine GoesW.step (B := T27.setTop (mkF m 125 #[.val (.int i0), .val (.int i1), .val (.int i2), .val (.int zs), .val (.long sp), .second, .val (.int ze), .val (.ref b1), .val (.long ((i2.toInt64) - (zs.toInt64))), .second, .val (.int (1 : Int32))] [(.int (1 : Int32)), (.int zs), (.ref b1)])) (fun _ k => XS.iconst X27.here hx rfl (hb hby at_124) k) ?_
      refine GoesW.step (B := T27.setTop (mkF m 126 #[.val (.int i0), .val (.int i1), .val (.int i2), .val (.int zs), .val (.long sp), .second, .val (.int ze), .val (.ref b1), .val (.long ((i2.toInt64) - (zs.toInt64))), .second, .val (.int (1 : Int32))] [(.int (zs - (1 : Int32))), (.ref b1)])) (fun _ k => XS.isub X27.here hx rfl (hb hby at_125) rfl k) ?_
      obtain ⟨cq28, kq28, qa28, qb28, qc28⟩ := isOf hZ2 eh27 Ex6
      obtain ⟨_, _, ⟨T28, L28, k28, n28⟩, -, X28, ⟨Lc28, hQ28, l28, y28, z28⟩, st28⟩ := X27.virtualBack hx (y := (⟨"com/example/errantry/errantry/workload/Task", "isOpenIn", "(I)Z"⟩ : MethodName)) (z := (⟨"com/example/errantry/errantry/workload/Task", "isOpenIn", "(I)Z"⟩ : MethodName)) hown2 (mvT hZ2 (hw _ (List.mem_of_getElem? (i := 45) rfl))) (mvT hZ2 (hw _ (List.mem_of_getElem? (i := 46) rfl))) (notFace_of_selects (args := #[]) (mvT hZ2 (hw _ (List.mem_of_getElem? (i := 48) rfl)))) (mvT hZ2 (hw _ (List.mem_of_getElem? (i := 48) rfl))) (mvT hZ2 (hw _ (List.mem_of_getElem? (i := 47) rfl))) (by decide) (backOf (W := 0) (rmoA l Z a0 hw [] b1 (zs - (1 : Int32)) zs ze T6.heap n0 O_6 (own_dec z0) Fc6_start Fc6_end) hZ2 (hw _ (List.mem_of_getElem? (i := 49) rfl)) (hw _ (List.mem_of_getElem? (i := 4) rfl)) (by decide) (by decide)) qa28 qc28 (g := (mkF m 126 #[.val (.int i0), .val (.int i1), .val (.int i2), .val (.int zs), .val (.long sp), .second, .val (.int ze), .val (.ref b1), .val (.long ((i2.toInt64) - (zs.toInt64))), .second, .val (.int (1 : Int32))] [(.int (zs - (1 : Int32))), (.ref b1)])) rfl (by rw [hml]; rfl) (Steps.refl _) (argsL := [(.int (zs - (1 : Int32)))]) (rest := []) (lenOf pd_3 rfl) rfl (by show 2 * 0 + _ ≤ _; exact Nat.le_of_eq rfl) (hb hby at_126) (fun _ _ => ⟨rfl, eh27, (by decide : 4 + 0 ≤ _), (by decide : 15 + 0 ≤ _)⟩)
      dsimp only [Pt.U, Pt.locs, Pt.cells, Pt.slots] at X28 l28 y28 z28 st28 hQ28
      subst l28 y28 z28
      obtain ⟨rfl, Nq28, eh28⟩ := hQ28
      have N28 := Fr.app N27 Nq28
      refine GoesW.via (B := T28.setTop (mkF m 129 #[.val (.int i0), .val (.int i1), .val (.int i2), .val (.int zs), .val (.long sp), .second, .val (.int ze), .val (.ref b1), .val (.long ((i2.toInt64) - (zs.toInt64))), .second, .val (.int (1 : Int32))] [(.int (0 : Int32))])) st28 ?_
      refine GoesW.step (B := T28.setTop (mkF m 134 #[.val (.int i0), .val (.int i1), .val (.int i2), .val (.int zs), .val (.long sp), .second, .val (.int ze), .val (.ref b1), .val (.long ((i2.toInt64) - (zs.toInt64))), .second, .val (.int (1 : Int32))] [])) (fun _ k => XS.ifYes X28.here hx rfl (pc0 := 129) (pc' := 134) rfl (hb hby at_129) rfl ((if0 _ _).trans (teq (by decide)).1) (by decide) (by decide) k) ?_
      refine GoesW.step (B := T28.setTop (mkF m 136 #[.val (.int i0), .val (.int i1), .val (.int i2), .val (.int zs), .val (.long sp), .second, .val (.int ze), .val (.ref b1), .val (.long ((i2.toInt64) - (zs.toInt64))), .second, .val (.int (1 : Int32))] [(.int ze)])) (fun _ k => XS.iload X28.here hx rfl (hb hby at_134) rfl k) ?_
      refine GoesW.step (B := T28.setTop (mkF m 138 #[.val (.int i0), .val (.int i1), .val (.int i2), .val (.int zs), .val (.long sp), .second, .val (.int ze), .val (.ref b1), .val (.long ((i2.toInt64) - (zs.toInt64))), .second, .val (.int (1 : Int32))] [(.int (2147483647 : Int32)), (.int ze)])) (X28.ldcInt hx hown2 (mvT hZ2 (hw _ (List.mem_of_getElem? (i := 0) rfl))) (g := (mkF m 136 #[.val (.int i0), .val (.int i1), .val (.int i2), .val (.int zs), .val (.long sp), .second, .val (.int ze), .val (.ref b1), .val (.long ((i2.toInt64) - (zs.toInt64))), .second, .val (.int (1 : Int32))] [(.int ze)])) rfl (hb hby at_136)) ?_
      by_cases hc138_28 : ze < (2147483647 : Int32)
      · refine GoesW.step (B := T28.setTop (mkF m 141 #[.val (.int i0), .val (.int i1), .val (.int i2), .val (.int zs), .val (.long sp), .second, .val (.int ze), .val (.ref b1), .val (.long ((i2.toInt64) - (zs.toInt64))), .second, .val (.int (1 : Int32))] [])) (fun _ k => XS.icmpNo X28.here hx rfl (hb hby at_138) rfl (tlt hc138_28).2.1 k) ?_
        obtain ⟨y1, y2⟩ := own_inc hc138_28
        have y3 : ¬ (ze + (1 : Int32)) < zs := own_nlt (by omega)
        refine GoesW.step (B := T28.setTop (mkF m 143 #[.val (.int i0), .val (.int i1), .val (.int i2), .val (.int zs), .val (.long sp), .second, .val (.int ze), .val (.ref b1), .val (.long ((i2.toInt64) - (zs.toInt64))), .second, .val (.int (1 : Int32))] [(.ref b1)])) (fun _ k => XS.aload X28.here hx rfl (hb hby at_141) rfl rfl k) ?_
        refine GoesW.step (B := T28.setTop (mkF m 145 #[.val (.int i0), .val (.int i1), .val (.int i2), .val (.int zs), .val (.long sp), .second, .val (.int ze), .val (.ref b1), .val (.long ((i2.toInt64) - (zs.toInt64))), .second, .val (.int (1 : Int32))] [(.int ze), (.ref b1)])) (fun _ k => XS.iload X28.here hx rfl (hb hby at_143) rfl k) ?_
        refine GoesW.step (B := T28.setTop (mkF m 146 #[.val (.int i0), .val (.int i1), .val (.int i2), .val (.int zs), .val (.long sp), .second, .val (.int ze), .val (.ref b1), .val (.long ((i2.toInt64) - (zs.toInt64))), .second, .val (.int (1 : Int32))] [(.int (1 : Int32)), (.int ze), (.ref b1)])) (fun _ k => XS.iconst X28.here hx rfl (hb hby at_145) k) ?_
        refine GoesW.step (B := T28.setTop (mkF m 147 #[.val (.int i0), .val (.int i1), .val (.int i2), .val (.int zs), .val (.long sp), .second, .val (.int ze), .val (.ref b1), .val (.long ((i2.toInt64) - (zs.toInt64))), .second, .val (.int (1 : Int32))] [(.int (ze + (1 : Int32))), (.ref b1)])) (fun _ k => XS.iadd X28.here hx rfl (hb hby at_146) rfl k) ?_
        obtain ⟨cq30, kq30, qa30, qb30, qc30⟩ := isOf hZ2 eh28 Ex6
        obtain ⟨_, _, ⟨T30, L30, k30, n30⟩, -, X30, ⟨Lc30, hQ30, l30, y30, z30⟩, st30⟩ := X28.virtualBack hx (y := (⟨"com/example/errantry/errantry/workload/Task", "isOpenIn", "(I)Z"⟩ : MethodName)) (z := (⟨"com/example/errantry/errantry/workload/Task", "isOpenIn", "(I)Z"⟩ : MethodName)) hown2 (mvT hZ2 (hw _ (List.mem_of_getElem? (i := 45) rfl))) (mvT hZ2 (hw _ (List.mem_of_getElem? (i := 46) rfl))) (notFace_of_selects (args := #[]) (mvT hZ2 (hw _ (List.mem_of_getElem? (i := 48) rfl)))) (mvT hZ2 (hw _ (List.mem_of_getElem? (i := 48) rfl))) (mvT hZ2 (hw _ (List.mem_of_getElem? (i := 47) rfl))) (by decide) (backOf (W := 0) (rmoB l Z a0 hw [] b1 (ze + (1 : Int32)) zs ze T6.heap n0 O_6 y3 y1 Fc6_start Fc6_end) hZ2 (hw _ (List.mem_of_getElem? (i := 49) rfl)) (hw _ (List.mem_of_getElem? (i := 4) rfl)) (by decide) (by decide)) qa30 qc30 (g := (mkF m 147 #[.val (.int i0), .val (.int i1), .val (.int i2), .val (.int zs), .val (.long sp), .second, .val (.int ze), .val (.ref b1), .val (.long ((i2.toInt64) - (zs.toInt64))), .second, .val (.int (1 : Int32))] [(.int (ze + (1 : Int32))), (.ref b1)])) rfl (by rw [hml]; rfl) (Steps.refl _) (argsL := [(.int (ze + (1 : Int32)))]) (rest := []) (lenOf pd_3 rfl) rfl (by show 2 * 0 + _ ≤ _; exact Nat.le_of_eq rfl) (hb hby at_147) (fun _ _ => ⟨rfl, eh28, (by decide : 4 + 0 ≤ _), (by decide : 15 + 0 ≤ _)⟩)
        dsimp only [Pt.U, Pt.locs, Pt.cells, Pt.slots] at X30 l30 y30 z30 st30 hQ30
        subst l30 y30 z30
        obtain ⟨rfl, Nq30, eh30⟩ := hQ30
        have N30 := Fr.app N28 Nq30
        refine GoesW.via (B := T30.setTop (mkF m 150 #[.val (.int i0), .val (.int i1), .val (.int i2), .val (.int zs), .val (.long sp), .second, .val (.int ze), .val (.ref b1), .val (.long ((i2.toInt64) - (zs.toInt64))), .second, .val (.int (1 : Int32))] [(.int (0 : Int32))])) st30 ?_
        refine GoesW.step (B := T30.setTop (mkF m 155 #[.val (.int i0), .val (.int i1), .val (.int i2), .val (.int zs), .val (.long sp), .second, .val (.int ze), .val (.ref b1), .val (.long ((i2.toInt64) - (zs.toInt64))), .second, .val (.int (1 : Int32))] [])) (fun _ k => XS.ifYes X30.here hx rfl (pc0 := 150) (pc' := 155) rfl (hb hby at_150) rfl ((if0 _ _).trans (teq (by decide)).1) (by decide) (by decide) k) ?_
        refine GoesW.step (B := T30.setTop (mkF m 156 #[.val (.int i0), .val (.int i1), .val (.int i2), .val (.int zs), .val (.long sp), .second, .val (.int ze), .val (.ref b1), .val (.long ((i2.toInt64) - (zs.toInt64))), .second, .val (.int (1 : Int32))] [(.int (1 : Int32))])) (fun _ k => XS.iconst X30.here hx rfl (hb hby at_155) k) ?_
        exact GoesW.retN X30 hS2 (Nat.le_trans (Nat.le_trans (Nat.le_trans hk2 E3.1) Kp5.1) Kp6.1) hx eh30 (t := .boolean) Bd.returns (by simp) hlk (hb hby at_156) (by decide) (by decide) (⟨rfl, N30⟩)
      · refine GoesW.step (B := T28.setTop (mkF m 155 #[.val (.int i0), .val (.int i1), .val (.int i2), .val (.int zs), .val (.long sp), .second, .val (.int ze), .val (.ref b1), .val (.long ((i2.toInt64) - (zs.toInt64))), .second, .val (.int (1 : Int32))] [])) (fun _ k => XS.icmpYes X28.here hx rfl (pc0 := 138) (pc' := 155) rfl (hb hby at_138) rfl (flt hc138_28).2.1 (by decide) (by decide) k) ?_
        refine GoesW.step (B := T28.setTop (mkF m 156 #[.val (.int i0), .val (.int i1), .val (.int i2), .val (.int zs), .val (.long sp), .second, .val (.int ze), .val (.ref b1), .val (.long ((i2.toInt64) - (zs.toInt64))), .second, .val (.int (1 : Int32))] [(.int (1 : Int32))])) (fun _ k => XS.iconst X28.here hx rfl (hb hby at_155) k) ?_
        exact GoesW.retN X28 hS2 (Nat.le_trans (Nat.le_trans (Nat.le_trans hk2 E3.1) Kp5.1) Kp6.1) hx eh28 (t := .boolean) Bd.returns (by simp) hlk (hb hby at_156) (by decide) (by decide) (⟨rfl, N28⟩)
set_option maxRecDepth 65536 in
set_option maxHeartbeats 40000000 in
theorem comes_1 {Post : Tables → Env → Array Value → State → Outcome → State → Prop} (hpost : ∀ tb e args s v u, (limb_1_1.after args s (.returned v) u = true ∧ limb_1_2.after args s (.returned v) u = true ∧ True) → ReturnedEndW s (.returned v) u (Jvm.fieldLocs frame_1_writes args s ++ Jvm.arrayLocs frame_1_arrays args s ++ Jvm.staticLocs frame_1_statics s) 16 1152 → Post tb e args s (.returned v) u) :
    ArmFor flags0 classFile x code maxLocals ret World_1 tables_1 room_1 Calls_1 rest_1 Pre_1 Post := by
  intro l hfl _ _ p e ha hc hk s m args below hf hA hF happ hP
  obtain ⟨hcalls, hrest, hpre⟩ := hP
  obtain ⟨-, -, -, hnamed, -, -, -, hat⟩ := (Spec.applies_iff hf).mp happ
  obtain ⟨hg, hn⟩ := and_e (Cond.before_iff.mp (show (Jvm.Cond.and given_1 narrow_1).before args s = true from hpre))
  obtain ⟨hcount, hg⟩ := and_e hg
  obtain ⟨w0, w1, w2, rfl⟩ : ∃ w0 w1 w2 : Value, args = #[w0, w1, w2] := by
    have hs : args.size = 3 := by simpa [Cond.value, given_1] using hcount
    obtain ⟨L⟩ := args
    match L, hs with
    | [w0, w1, w2], _ => exact ⟨w0, w1, w2, rfl⟩
  have hw := fun d (hd : d ∈ tables_1) => atoms_spec (ws := Jvm.Cond.code x code maxLocals ret :: tables_1) hat d (List.mem_cons_of_mem _ hd)
  have hfit : Fit s := fun {y c} hc i hi => by
    obtain ⟨ha, rfl⟩ := Array.getElem?_eq_some_iff.mp hc
    have q := List.all_eq_true.mp ((Array.all_eq_true_iff_forall_mem.mp hF) _ (Array.getElem_mem ha)) i (List.mem_range.mpr hi)
    simpa [Array.getElem?_eq_getElem hi] using q
  obtain ⟨hi0, hg0⟩ := and_e hg
  obtain ⟨i0, ei0⟩ := is_v hi0
  obtain rfl : w0 = (.int i0) := Option.some.inj ei0
  obtain ⟨hi1, hg1⟩ := and_e hg0
  obtain ⟨i1, ei1⟩ := is_v hi1
  obtain rfl : w1 = (.int i1) := Option.some.inj ei1
  obtain ⟨i2, ei2⟩ := is_v hg1
  obtain rfl : w2 = (.int i2) := Option.some.inj ei2
  obtain ⟨n, o, h1, h2, h3, _, L, rfl, ⟨rfl, N⟩, hq⟩ := rm0 l s _ hw tables_1 i0 i1 i2 s.heap s.heap.size (Old.start s)  p e ha hc hk s m _ below hf ((Spec.applies_iff_loose hf).mp happ).1 ⟨rfl, State.Warmed39.refl s, rfl⟩ trivial
  refine ⟨n, _, h1, h2, h3, hpost _ _ _ _ _ _ ⟨Cond.after_iff.mpr rfl, Cond.after_iff.mpr (eq_i res_at (Term.int_eval (1)) rfl), trivial⟩ ⟨hq.1, hq.2.1, hq.2.2.1, (hq.2.2.2.sift fun y hy => Or.inr (N y hy)).mono (by decide) (by decide)⟩⟩
theorem main_1_1 : Claimed_1_1 := comes_1 fun _ _ _ _ _ _ h hF => ⟨h.1, hF⟩
theorem main_1_2 : Claimed_1_2 := comes_1 fun _ _ _ _ _ _ h hF => ⟨h.2.1, hF⟩
end Jvm.Pilot.@@N@@
namespace Jvm.Pilot.@@N@@
open Jvm Jvm.ClassFile Sem Op Lib Jvm.Free Jvm.Stand Jvm.Pilot.@@N@@.Jvm.D
/-! MADE BY PROGRAM (witnessworld.py) out of the Statement's table words and the real class files: 16 classes; the members and pool entries that the words name. The judged class is class 1, her method 1. -/
namespace start1
open Jvm.ClassFile
def u (s : String) : CpInfo := .utf8 (stringToUtf16 s)
/-- a pool by its gaps: so many unusable entries, then the entry; so many at the end -/
def gap : Nat → List CpInfo → List CpInfo
  | 0, r => r
  | n + 1, r => .unusable :: gap n r
def poolList (es : List (Nat × CpInfo)) (last : Nat) : List CpInfo := es.foldr (fun e r => gap e.1 (e.2 :: r)) (gap last [])
def pool (es : List (Nat × CpInfo)) (last : Nat) : Array CpInfo := ⟨poolList es last⟩
def fileOf (pool : Array CpInfo) (this : Nat) (attrs : Array Attribute := #[]) (ms : Array MethodInfo := #[]) (fl : Nat := 33) (sup : Nat := 0) (ifs : Array Nat := #[]) (fds : Array FieldInfo := #[]) : ClassFile where
  minorVersion := 0
  majorVersion := 65
  constantPool := pool
  accessFlags := fl
  thisClass := this
  superClass := sup
  interfaces := ifs
  fields := fds
  methods := ms
  attributes := attrs
def plain (name : String) (sup : Option ClassId) : Class where
  name := name
  kind := .ordinary
  loader := none
  accessFlags := 33
  super := sup
  interfaces := #[]
  cf := none
  fields := #[]
  methods := #[]
  instanceTypes := #[]
  staticTypes := #[]
  resolved := #[]
  callSites := []
  init := .initialized
  statics := none
  mirror := none

def pool0 : Array CpInfo := pool [(5, u "<init>"), (0, u "()V"), (1, .class_ 10), (1, u "java/lang/Object")] 113

def k0c0 : Code := { maxStack := 0, maxLocals := 1, code := object_method_1_code, exceptionTable := #[], attributes := #[] }
def k0m0 : Method := { name := "<init>", desc := "()V", sig := { parameters := [], returnType := none }, accessFlags := 1, code := some k0c0 }
/-- java/lang/Object -/
def k0 : Class := { plain "java/lang/Object" none with
  accessFlags := 33
  interfaces := #[]
  cf := some (fileOf pool0 8 #[] #[{ accessFlags := 1, nameIndex := 5, descriptorIndex := 6, attributes := #[] }] 33 0 #[] #[])
  fields := #[]
  methods := #[k0m0]
  instanceTypes := #[]
  staticTypes := #[]
  resolved := Array.replicate 124 none
  statics := none }

def pool1 : Array CpInfo := pool [(2, .class_ 4), (1, u "java/lang/Object"), (0, u "<init>"), (0, u "()V"), (0, .integer 2147483647), (2, .long 2147483647), (1, .class_ 13), (0, u "com/example/errantry/errantry/workload/Task"), (0, .string 15), (0, u "t"), (0, .class_ 17), (0, u "com/example/errantry/errantry/workload/Position"), (0, .methodref 16 19), (0, .nameAndType 5 20), (0, u "(DD)V"), (0, .methodref 12 22), (0, .nameAndType 5 23), (0, u "(Ljava/lang/String;Lcom/example/errantry/errantry/workload/Position;DII)V"), (0, .methodref 12 25), (0, .nameAndType 26 27), (0, u "isOpenIn"), (0, u "(I)Z"), (0, .class_ 29), (0, u "com/example/errantry/errantry/workload/TaskIsOpenInPinLaw"), (2, u "law"), (0, u "(III)Z")] 3

def k1m0 : Method := { name := "<init>", desc := "()V", sig := { parameters := [], returnType := none }, accessFlags := 1, code := none }
def k1c1 : Code := { maxStack := 9, maxLocals := 11, code := code, exceptionTable := #[], attributes := #[] }
def k1m1 : Method := { name := "law", desc := "(III)Z", sig := { parameters := [.int, .int, .int], returnType := some .boolean }, accessFlags := 9, code := some k1c1 }
/-- com/example/errantry/errantry/workload/TaskIsOpenInPinLaw -/
def k1 : Class := { plain "com/example/errantry/errantry/workload/TaskIsOpenInPinLaw" (some 0) with
  accessFlags := 49
  interfaces := #[]
  cf := some (fileOf pool1 28 #[] #[{ accessFlags := 1, nameIndex := 5, descriptorIndex := 6, attributes := #[] }, { accessFlags := 9, nameIndex := 32, descriptorIndex := 33, attributes := #[] }] 49 2 #[] #[])
  fields := #[]
  methods := #[k1m0, k1m1]
  instanceTypes := #[]
  staticTypes := #[]
  resolved := Array.replicate 37 none
  statics := none }

def pool2 : Array CpInfo := pool [(1, .methodref 2 3), (0, .class_ 4), (0, .nameAndType 5 6), (0, u "java/lang/Object"), (0, u "<init>"), (0, u "()V"), (0, .class_ 8), (0, u "java/lang/Record")] 13

def k2c0 : Code := { maxStack := 1, maxLocals := 1, code := jdk_30_method_1_code, exceptionTable := #[], attributes := #[] }
def k2m0 : Method := { name := "<init>", desc := "()V", sig := { parameters := [], returnType := none }, accessFlags := 4, code := some k2c0 }
/-- java/lang/Record -/
def k2 : Class := { plain "java/lang/Record" (some 0) with
  accessFlags := 1057
  interfaces := #[]
  cf := some (fileOf pool2 7 #[] #[{ accessFlags := 4, nameIndex := 5, descriptorIndex := 6, attributes := #[] }] 1057 2 #[] #[])
  fields := #[]
  methods := #[k2m0]
  instanceTypes := #[]
  staticTypes := #[]
  resolved := Array.replicate 22 none
  statics := none }

def pool3 : Array CpInfo := pool [(1, .methodref 2 3), (0, .class_ 4), (0, .nameAndType 5 6), (0, u "java/lang/Record"), (0, u "<init>"), (0, u "()V"), (0, .fieldref 8 9), (0, .class_ 10), (0, .nameAndType 11 12), (0, u "com/example/errantry/errantry/workload/Task"), (0, u "id"), (0, u "Ljava/lang/String;"), (0, .fieldref 8 14), (0, .nameAndType 15 16), (0, u "position"), (0, u "Lcom/example/errantry/errantry/workload/Position;"), (0, .fieldref 8 18), (0, .nameAndType 19 20), (0, u "radiusM"), (0, u "D"), (0, .fieldref 8 22), (0, .nameAndType 23 24), (0, u "start"), (0, u "I"), (0, .fieldref 8 26), (0, .nameAndType 27 24), (0, u "end"), (12, u "(Ljava/lang/String;Lcom/example/errantry/errantry/workload/Position;DII)V"), (3, u "isOpenIn"), (0, u "(I)Z")] 30

def k3c0 : Code := { maxStack := 3, maxLocals := 7, code := prog_61_method_1_code, exceptionTable := #[], attributes := #[] }
def k3m0 : Method := { name := "<init>", desc := "(Ljava/lang/String;Lcom/example/errantry/errantry/workload/Position;DII)V", sig := { parameters := [(.object "java/lang/String"), (.object "com/example/errantry/errantry/workload/Position"), .double, .int, .int], returnType := none }, accessFlags := 1, code := some k3c0 }
def k3c1 : Code := { maxStack := 2, maxLocals := 2, code := prog_61_method_2_code, exceptionTable := #[], attributes := #[] }
def k3m1 : Method := { name := "isOpenIn", desc := "(I)Z", sig := { parameters := [.int], returnType := some .boolean }, accessFlags := 1, code := some k3c1 }
/-- com/example/errantry/errantry/workload/Task -/
def k3 : Class := { plain "com/example/errantry/errantry/workload/Task" (some 2) with
  accessFlags := 49
  interfaces := #[]
  cf := some (fileOf pool3 8 #[] #[{ accessFlags := 1, nameIndex := 5, descriptorIndex := 40, attributes := #[] }, { accessFlags := 1, nameIndex := 44, descriptorIndex := 45, attributes := #[] }] 49 2 #[] #[{ accessFlags := 18, nameIndex := 11, descriptorIndex := 12, attributes := #[] }, { accessFlags := 18, nameIndex := 15, descriptorIndex := 16, attributes := #[] }, { accessFlags := 18, nameIndex := 19, descriptorIndex := 20, attributes := #[] }, { accessFlags := 18, nameIndex := 23, descriptorIndex := 24, attributes := #[] }, { accessFlags := 18, nameIndex := 27, descriptorIndex := 24, attributes := #[] }])
  fields := #[{ name := "id", type := (.object "java/lang/String"), accessFlags := 18, slot := 0, constantValue := 0 }, { name := "position", type := (.object "com/example/errantry/errantry/workload/Position"), accessFlags := 18, slot := 1, constantValue := 0 }, { name := "radiusM", type := .double, accessFlags := 18, slot := 2, constantValue := 0 }, { name := "start", type := .int, accessFlags := 18, slot := 3, constantValue := 0 }, { name := "end", type := .int, accessFlags := 18, slot := 4, constantValue := 0 }]
  methods := #[k3m0, k3m1]
  instanceTypes := #[(.object "java/lang/String"), (.object "com/example/errantry/errantry/workload/Position"), .double, .int, .int]
  staticTypes := #[]
  resolved := Array.replicate 76 none
  statics := none }

def pool4 : Array CpInfo := pool [(1, .class_ 2), (0, u "java/io/Serializable"), (0, .class_ 4), (0, u "java/lang/Object")] 2

/-- java/io/Serializable -/
def k4 : Class := { plain "java/io/Serializable" (some 0) with
  accessFlags := 1537
  interfaces := #[]
  cf := some (fileOf pool4 1 #[] #[] 1537 3 #[] #[])
  fields := #[]
  methods := #[]
  instanceTypes := #[]
  staticTypes := #[]
  resolved := Array.replicate 7 none
  statics := none }

def pool5 : Array CpInfo := pool [(1, .class_ 2), (0, u "java/lang/Comparable"), (0, .class_ 4), (0, u "java/lang/Object")] 7

/-- java/lang/Comparable -/
def k5 : Class := { plain "java/lang/Comparable" (some 0) with
  accessFlags := 1537
  interfaces := #[]
  cf := some (fileOf pool5 1 #[] #[] 1537 3 #[] #[])
  fields := #[]
  methods := #[]
  instanceTypes := #[]
  staticTypes := #[]
  resolved := Array.replicate 12 none
  statics := none }

def pool6 : Array CpInfo := pool [(2, .class_ 4), (1, u "java/lang/CharSequence"), (42, .class_ 48), (0, u "java/lang/CharSequence$1CodePointIterator"), (10, .class_ 60), (0, u "java/lang/CharSequence$1CharIterator"), (5, .class_ 67), (0, u "java/lang/Object")] 63

/-- java/lang/CharSequence -/
def k6 : Class := { plain "java/lang/CharSequence" (some 0) with
  accessFlags := 1537
  interfaces := #[]
  cf := some (fileOf pool6 2 #[.nestMembers #[47, 59]] #[] 1537 66 #[] #[])
  fields := #[]
  methods := #[]
  instanceTypes := #[]
  staticTypes := #[]
  resolved := Array.replicate 131 none
  statics := none }

def pool7 : Array CpInfo := pool [(1, .class_ 2), (0, u "java/lang/constant/Constable"), (0, .class_ 4), (0, u "java/lang/Object")] 6

/-- java/lang/constant/Constable -/
def k7 : Class := { plain "java/lang/constant/Constable" (some 0) with
  accessFlags := 1537
  interfaces := #[]
  cf := some (fileOf pool7 1 #[] #[] 1537 3 #[] #[])
  fields := #[]
  methods := #[]
  instanceTypes := #[]
  staticTypes := #[]
  resolved := Array.replicate 11 none
  statics := none }

def pool8 : Array CpInfo := pool [(1, .class_ 2), (0, u "java/lang/constant/ConstantDesc"), (0, .class_ 4), (0, u "java/lang/Object")] 32

/-- java/lang/constant/ConstantDesc -/
def k8 : Class := { plain "java/lang/constant/ConstantDesc" (some 0) with
  accessFlags := 1537
  interfaces := #[]
  cf := some (fileOf pool8 1 #[] #[] 1537 3 #[] #[])
  fields := #[]
  methods := #[]
  instanceTypes := #[]
  staticTypes := #[]
  resolved := Array.replicate 37 none
  statics := none }

def pool9 : Array CpInfo := pool [(2, .class_ 4), (1, u "java/lang/Object"), (0, u "<init>"), (0, u "()V"), (3, .class_ 12), (1, u "java/lang/String"), (0, u "value"), (0, u "[B"), (2, u "coder"), (0, u "B"), (2, u "hash"), (0, u "I"), (2, u "hashIsZero"), (0, u "Z"), (13, u "COMPACT_STRINGS"), (534, .class_ 576), (0, u "java/lang/CharSequence"), (22, u "CASE_INSENSITIVE_ORDER"), (0, u "Ljava/util/Comparator;"), (500, u "serialPersistentFields"), (0, u "[Ljava/io/ObjectStreamField;"), (0, .class_ 1104), (0, u "java/lang/String$CaseInsensitiveComparator"), (1, .class_ 1107), (0, u "java/io/Serializable"), (0, .class_ 1109), (0, u "java/lang/Comparable"), (0, .class_ 1111), (0, u "java/lang/constant/Constable"), (0, .class_ 1113), (0, u "java/lang/constant/ConstantDesc"), (2, u "serialVersionUID"), (0, u "J"), (3, u "REPL"), (0, u "C"), (2, u "LATIN1"), (1, u "UTF16")] 323

def k9m0 : Method := { name := "<init>", desc := "()V", sig := { parameters := [], returnType := none }, accessFlags := 1, code := none }
/-- java/lang/String -/
def k9 : Class := { plain "java/lang/String" (some 0) with
  accessFlags := 49
  interfaces := #[4, 5, 6, 7, 8]
  cf := some (fileOf pool9 10 #[.nestMembers #[1103]] #[{ accessFlags := 1, nameIndex := 5, descriptorIndex := 6, attributes := #[] }] 49 2 #[1106, 1108, 575, 1110, 1112] #[{ accessFlags := 18, nameIndex := 13, descriptorIndex := 14, attributes := #[] }, { accessFlags := 18, nameIndex := 17, descriptorIndex := 18, attributes := #[] }, { accessFlags := 2, nameIndex := 21, descriptorIndex := 22, attributes := #[] }, { accessFlags := 2, nameIndex := 25, descriptorIndex := 26, attributes := #[] }, { accessFlags := 26, nameIndex := 1116, descriptorIndex := 1117, attributes := #[] }, { accessFlags := 24, nameIndex := 40, descriptorIndex := 26, attributes := #[] }, { accessFlags := 26, nameIndex := 1101, descriptorIndex := 1102, attributes := #[] }, { accessFlags := 26, nameIndex := 1121, descriptorIndex := 1122, attributes := #[] }, { accessFlags := 25, nameIndex := 599, descriptorIndex := 600, attributes := #[] }, { accessFlags := 24, nameIndex := 1125, descriptorIndex := 18, attributes := #[] }, { accessFlags := 24, nameIndex := 1127, descriptorIndex := 18, attributes := #[] }])
  fields := #[{ name := "value", type := (.array .byte), accessFlags := 18, slot := 0, constantValue := 0 }, { name := "coder", type := .byte, accessFlags := 18, slot := 1, constantValue := 0 }, { name := "hash", type := .int, accessFlags := 2, slot := 2, constantValue := 0 }, { name := "hashIsZero", type := .boolean, accessFlags := 2, slot := 3, constantValue := 0 }, { name := "serialVersionUID", type := .long, accessFlags := 26, slot := 0, constantValue := 0 }, { name := "COMPACT_STRINGS", type := .boolean, accessFlags := 24, slot := 1, constantValue := 0 }, { name := "serialPersistentFields", type := (.array (.object "java/io/ObjectStreamField")), accessFlags := 26, slot := 2, constantValue := 0 }, { name := "REPL", type := .char, accessFlags := 26, slot := 3, constantValue := 0 }, { name := "CASE_INSENSITIVE_ORDER", type := (.object "java/util/Comparator"), accessFlags := 25, slot := 4, constantValue := 0 }, { name := "LATIN1", type := .byte, accessFlags := 24, slot := 5, constantValue := 0 }, { name := "UTF16", type := .byte, accessFlags := 24, slot := 6, constantValue := 0 }]
  methods := #[k9m0]
  instanceTypes := #[(.array .byte), .byte, .int, .boolean]
  staticTypes := #[.long, .boolean, (.array (.object "java/io/ObjectStreamField")), .char, (.object "java/util/Comparator"), .byte, .byte]
  resolved := Array.replicate 1451 none
  statics := none }

def pool10 : Array CpInfo := pool [(1, .methodref 2 3), (0, .class_ 4), (0, .nameAndType 5 6), (0, u "java/lang/Record"), (0, u "<init>"), (0, u "()V"), (0, .fieldref 8 9), (0, .class_ 10), (0, .nameAndType 11 12), (0, u "com/example/errantry/errantry/workload/Position"), (0, u "lat"), (0, u "D"), (0, .fieldref 8 14), (0, .nameAndType 15 12), (0, u "lon"), (12, u "(DD)V")] 28

def k10c0 : Code := { maxStack := 3, maxLocals := 5, code := prog_56_method_1_code, exceptionTable := #[], attributes := #[] }
def k10m0 : Method := { name := "<init>", desc := "(DD)V", sig := { parameters := [.double, .double], returnType := none }, accessFlags := 1, code := some k10c0 }
/-- com/example/errantry/errantry/workload/Position -/
def k10 : Class := { plain "com/example/errantry/errantry/workload/Position" (some 2) with
  accessFlags := 49
  interfaces := #[]
  cf := some (fileOf pool10 8 #[] #[{ accessFlags := 1, nameIndex := 5, descriptorIndex := 28, attributes := #[] }] 49 2 #[] #[{ accessFlags := 18, nameIndex := 11, descriptorIndex := 12, attributes := #[] }, { accessFlags := 18, nameIndex := 15, descriptorIndex := 12, attributes := #[] }])
  fields := #[{ name := "lat", type := .double, accessFlags := 18, slot := 0, constantValue := 0 }, { name := "lon", type := .double, accessFlags := 18, slot := 1, constantValue := 0 }]
  methods := #[k10m0]
  instanceTypes := #[.double, .double]
  staticTypes := #[]
  resolved := Array.replicate 57 none
  statics := none }

def pool11 : Array CpInfo := pool [(1, u "java/lang/Cloneable"), (0, .class_ 1), (0, u "java/lang/Object"), (0, .class_ 3)] 3

/-- java/lang/Cloneable -/
def k11 : Class := { plain "java/lang/Cloneable" (some 0) with
  accessFlags := 1537
  interfaces := #[]
  cf := some (fileOf pool11 2 #[] #[] 1537 4 #[] #[])
  fields := #[]
  methods := #[]
  instanceTypes := #[]
  staticTypes := #[]
  resolved := Array.replicate 8 none
  statics := none }

/-- the primitive byte -/
def k12 : Class := { plain "byte" none with kind := .primitive 'B', accessFlags := 0x411 }
/-- [B -/
def k13 : Class := { plain "[B" (some 0) with kind := .array 12 .byte, interfaces := #[11, 4], accessFlags := 1041 }

/-- the primitive int -/
def k14 : Class := { plain "int" none with kind := .primitive 'I', accessFlags := 0x411 }
/-- [I -/
def k15 : Class := { plain "[I" (some 0) with kind := .array 14 .int, interfaces := #[11, 4], accessFlags := 1041 }

def heap : Heap := #[]
def classes : Array Class := #[k0, k1, k2, k3, k4, k5, k6, k7, k8, k9, k10, k11, k12, k13, k14, k15]
def interned : List (Array UInt16 × Addr) := []
def slotsUsed : Nat := 0
def theMethod : MethodId := ⟨1, 1⟩
def args0 : Array Value := #[.int 5, .int 9, .int 7]
def aboutOver (below : List Frame) : State where
  vm := { classes := classes, interned := interned.toArray }
  heap := heap
  slotsUsed := slotsUsed
  threads := #[{ frames := .invoking theMethod args0 :: below }]
def below0 : List Frame := [.native { method := ⟨0, 0⟩, args := #[] }]
def about1 : State := aboutOver below0
def p0 : Program := .bare "" "" ""
def e0 : Env := launch0.env 0 0 0
theorem w_frames : about1.frames = Frame.invoking theMethod args0 :: below0 := rfl
set_option maxRecDepth 65536 in
theorem w_args : argsFit about1.vm theMethod args0 = true := by decide +kernel
set_option maxRecDepth 65536 in
theorem w_heap : heapFits about1 = true := by decide +kernel
set_option maxRecDepth 65536 in
theorem w_runnable : about1.curStatus? = some .runnable := by decide +kernel
set_option maxRecDepth 65536 in
theorem w_alone : about1.alone = true := by decide +kernel
set_option maxRecDepth 65536 in
theorem w_named : about1.methodNamed? x = some theMethod := by decide +kernel
set_option maxRecDepth 65536 in
theorem w_hears : about1.hears theMethod below0 = true := by decide +kernel
set_option maxRecDepth 65536 in
theorem w_ripe : about1.ripe theMethod args0 below0 = true := by decide +kernel
theorem w_running : about1.status = .running := rfl
set_option maxRecDepth 65536 in
theorem w_room : about1.hasRoom e0.platform room_1 = true :=
  launch0.hasRoom_least _ room_1 (by decide +kernel) (by decide +kernel) (by decide +kernel) (by decide +kernel) (by decide +kernel) (by decide +kernel)
theorem allAtoms_all (ts : List Jvm.Cond) (a : Array Jvm.Value) (st : Jvm.State) : (allAtoms ts).before a st = ts.all (fun c => c.before a st) := by
  induction ts with
  | nil => rfl
  | cons c t ih =>
    show (Jvm.Cond.and c (allAtoms t)).before a st = _
    rw [Jvm.Cond.before_and, ih, List.all_cons]
def words1 : List Jvm.Cond := Jvm.Cond.code x code maxLocals ret :: tables_1
/-- a 'code' word, met by the world's own term for the bytes: nothing is compared byte by byte -/
theorem code_word {y : MethodName} {bytes : ByteArray} {mx : Nat} {rt : Option FieldType} {a : Array Value} {s : State} {m : MethodId} {meth : Method} {c : Code} (h1 : s.methodNamed? y = some m) (h2 : s.vm.method? m = some meth) (h3 : meth.code = some c) (h4 : c.code = bytes)
    (h5 : (c.maxLocals == mx && c.exceptionTable.isEmpty && decide (c.maxStack ≤ mostOperands) && decide (meth.sig.returnType = rt) && !meth.locks && decide (parseMethodDescriptor y.desc = some meth.sig)) = true) : (Jvm.Cond.code y bytes mx rt).before a s = true := by
  simp only [Bool.and_eq_true, beq_iff_eq, Bool.not_eq_true', decide_eq_true_eq] at h5
  obtain ⟨⟨⟨⟨⟨g1, g2⟩, g3⟩, g4⟩, g5⟩, g6⟩ := h5
  simp [Cond.before, Cond.holds, Cond.value, h1, h2, h3, h4, g1, g2, g3, g4, g5, g6]
def isCode : Jvm.Cond → Bool
  | .code _ _ _ _ => true
  | _ => false
theorem all_split {L : List Jvm.Cond} {P : Jvm.Cond → Bool} (h1 : L.all (fun c => isCode c || P c) = true) (h2 : ∀ c ∈ L.filter isCode, P c = true) : L.all P = true := by
  refine List.all_eq_true.mpr fun c hc => ?_
  have h := List.all_eq_true.mp h1 c hc
  rcases Bool.eq_false_or_eq_true (isCode c) with hi | hi
  · exact h2 c (List.mem_filter.mpr ⟨hc, hi⟩)
  · simpa [hi] using h
set_option maxRecDepth 65536 in
theorem w_c0 : (Jvm.Cond.code x code maxLocals ret).before args0 about1 = true := code_word (m := ⟨1, 1⟩) (meth := k1m1) (c := k1c1) (by decide +kernel) rfl rfl rfl (by decide +kernel)
set_option maxRecDepth 65536 in
theorem w_c1 : (Jvm.Cond.code ({ cls := "com/example/errantry/errantry/workload/Position", name := "<init>", desc := "(DD)V" } : Jvm.MethodName) prog_56_method_1_code (5 : Nat) (Option.none : Option Jvm.ClassFile.FieldType)).before args0 about1 = true := code_word (m := ⟨10, 0⟩) (meth := k10m0) (c := k10c0) (by decide +kernel) rfl rfl rfl (by decide +kernel)
set_option maxRecDepth 65536 in
theorem w_c2 : (Jvm.Cond.code ({ cls := "java/lang/Record", name := "<init>", desc := "()V" } : Jvm.MethodName) jdk_30_method_1_code (1 : Nat) (Option.none : Option Jvm.ClassFile.FieldType)).before args0 about1 = true := code_word (m := ⟨2, 0⟩) (meth := k2m0) (c := k2c0) (by decide +kernel) rfl rfl rfl (by decide +kernel)
set_option maxRecDepth 65536 in
theorem w_c3 : (Jvm.Cond.code ({ cls := "java/lang/Object", name := "<init>", desc := "()V" } : Jvm.MethodName) object_method_1_code (1 : Nat) (Option.none : Option Jvm.ClassFile.FieldType)).before args0 about1 = true := code_word (m := ⟨0, 0⟩) (meth := k0m0) (c := k0c0) (by decide +kernel) rfl rfl rfl (by decide +kernel)
set_option maxRecDepth 65536 in
theorem w_c4 : (Jvm.Cond.code ({ cls := "com/example/errantry/errantry/workload/Task", name := "<init>", desc := "(Ljava/lang/String;Lcom/example/errantry/errantry/workload/Position;DII)V" } : Jvm.MethodName) prog_61_method_1_code (7 : Nat) (Option.none : Option Jvm.ClassFile.FieldType)).before args0 about1 = true := code_word (m := ⟨3, 0⟩) (meth := k3m0) (c := k3c0) (by decide +kernel) rfl rfl rfl (by decide +kernel)
set_option maxRecDepth 65536 in
theorem w_c5 : (Jvm.Cond.code ({ cls := "com/example/errantry/errantry/workload/Task", name := "isOpenIn", desc := "(I)Z" } : Jvm.MethodName) prog_61_method_2_code (2 : Nat) (Option.some Jvm.ClassFile.FieldType.boolean)).before args0 about1 = true := code_word (m := ⟨3, 1⟩) (meth := k3m1) (c := k3c1) (by decide +kernel) rfl rfl rfl (by decide +kernel)
def codes1 : List Jvm.Cond := [Jvm.Cond.code x code maxLocals ret, Jvm.Cond.code ({ cls := "com/example/errantry/errantry/workload/Position", name := "<init>", desc := "(DD)V" } : Jvm.MethodName) prog_56_method_1_code (5 : Nat) (Option.none : Option Jvm.ClassFile.FieldType), Jvm.Cond.code ({ cls := "java/lang/Record", name := "<init>", desc := "()V" } : Jvm.MethodName) jdk_30_method_1_code (1 : Nat) (Option.none : Option Jvm.ClassFile.FieldType), Jvm.Cond.code ({ cls := "java/lang/Object", name := "<init>", desc := "()V" } : Jvm.MethodName) object_method_1_code (1 : Nat) (Option.none : Option Jvm.ClassFile.FieldType), Jvm.Cond.code ({ cls := "com/example/errantry/errantry/workload/Task", name := "<init>", desc := "(Ljava/lang/String;Lcom/example/errantry/errantry/workload/Position;DII)V" } : Jvm.MethodName) prog_61_method_1_code (7 : Nat) (Option.none : Option Jvm.ClassFile.FieldType), Jvm.Cond.code ({ cls := "com/example/errantry/errantry/workload/Task", name := "isOpenIn", desc := "(I)Z" } : Jvm.MethodName) prog_61_method_2_code (2 : Nat) (Option.some Jvm.ClassFile.FieldType.boolean)]
set_option maxRecDepth 65536 in
theorem codes_eq : words1.filter isCode = codes1 := rfl
theorem w_codes : ∀ c ∈ words1.filter isCode, c.before args0 about1 = true := by
  rw [codes_eq]
  intro c hc
  simp only [codes1, List.mem_cons, List.not_mem_nil, or_false] at hc
  rcases hc with rfl | rfl | rfl | rfl | rfl | rfl
  · exact w_c0
  · exact w_c1
  · exact w_c2
  · exact w_c3
  · exact w_c4
  · exact w_c5
set_option maxRecDepth 65536 in
theorem w_t1 : (words1.take 24).all (fun c => isCode c || c.before args0 about1) = true := by decide +kernel
set_option maxRecDepth 65536 in
theorem w_t2 : ((words1.drop 24).take 24).all (fun c => isCode c || c.before args0 about1) = true := by decide +kernel
set_option maxRecDepth 65536 in
theorem w_t3 : ((words1.drop 24).drop 24).all (fun c => isCode c || c.before args0 about1) = true := by decide +kernel
theorem w_tables : (allAtoms (Jvm.Cond.code x code maxLocals ret :: tables_1)).before args0 about1 = true := by
  rw [allAtoms_all]
  show words1.all (fun c => c.before args0 about1) = true
  refine all_split ?_ w_codes
  rw [← List.take_append_drop 24 words1, List.all_append, w_t1, ← List.take_append_drop 24 (words1.drop 24), List.all_append, w_t2, w_t3]
  rfl
set_option maxRecDepth 65536 in
theorem w_case : (Jvm.Cond.and given_1 narrow_1).before args0 about1 = true := by decide +kernel
theorem w_applies : (headSpec (Jvm.Cond.code x code maxLocals ret :: tables_1) room_1).applies x e0.platform about1 = true :=
  (Spec.applies_iff w_frames).mpr ⟨w_running, w_runnable, w_alone, w_named, w_hears, w_ripe, w_room, w_tables⟩
theorem atStart : AtStart classFile x code maxLocals ret World_1 tables_1 room_1 Calls_1 rest_1 Pre_1 launch0 p0 e0 about1 theMethod args0 below0 :=
  ⟨lists_1, trivial, launch0.admits_env _ _ _, launch0.least_env, fairChoices_fair.cas, fairChoices_fair.clock, w_frames, w_args, w_heap, w_applies, trivial, trivial, w_case⟩
end start1
theorem witness_1 : WitnessClaimed_1 := ⟨start1.p0, start1.e0, start1.about1, start1.theMethod, start1.args0, start1.below0, start1.atStart⟩
end Jvm.Pilot.@@N@@
