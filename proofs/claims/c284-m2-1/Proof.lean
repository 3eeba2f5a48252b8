import JvmDerived
import JvmDerived.Pilot.@@N@@Statement
import JvmDerived.Pilot.@@N@@Code
set_option linter.unusedVariables false
set_option linter.unusedSimpArgs false
namespace Jvm.RoadKit
open Sem ClassFile Op Lib Jvm.Stand Jvm.Free Jvm.LawKit
section Own
variable {p : Program} {l : Launch} {e : Env} {R : Room} {s : State} {m : MethodId} {args : Array Value} {below : List Frame} {meth : Method} {c : Code} {T : State} {locs : List Loc} {cells slots : Nat} {Q : Option Value → Heap → List Loc → Prop} {k n : Nat} {A B : State} {h : Heap}
/-- from the state A the run comes to its end, with what Q says -/
def Goes (p : Program) (e : Env) (below : List Frame) (s : State) (Q : Option Value → Heap → List Loc → Prop) (k n : Nat) (A : State) : Prop :=
  ∃ s₂ o, Steps p.tables e below A s₂ ∧ s₂.status = .running ∧ Ended s₂ below o ∧ ∃ v L, o = .returned v ∧ Q v s₂.heap L ∧ FrameEnd s o s₂ L k n
theorem Goes.step (q : ∀ t, Steps p.tables e below B t → Steps p.tables e below A t) (g : Goes p e below s Q k n B) : Goes p e below s Q k n A := by
  obtain ⟨s₂, o, h1, h2⟩ := g
  exact ⟨s₂, o, q _ h1, h2⟩
theorem Goes.via (q : Steps p.tables e below A B) (g : Goes p e below s Q k n B) : Goes p e below s Q k n A := by
  obtain ⟨s₂, o, h1, h2⟩ := g
  exact ⟨s₂, o, q.trans h1, h2⟩
theorem Goes.enter {g g' : JFrame} (q : g = g') (h : Goes p e below s Q k n (T.setTop g')) : Goes p e below s Q k n (T.setTop g) := q ▸ h
theorem Goes.out (X : Stand p l e R s m args below meth c T locs cells slots) (eT : T.heap = h) {v : Option Value} (hv : meth.sig.returnType = none → v = none) (hlk : meth.locks = false)
    (hs : ∀ fs, (∀ (f : JFrame) (acts : List Action), f.method = m → f.locked = none → f.entered = [] → (doReturn e (T.setTop f) acts v).1 = T.setFrames fs) → Steps p.tables e below A (T.setFrames fs)) (hk : cells ≤ k) (hn : slots ≤ n) (hQ : Q v h locs) : Goes p e below s Q k n A := by
  obtain ⟨fs, hr, hrun, hended, hW, hsame⟩ := X.leave (v := v) hv hlk
  exact ⟨_, _, hs fs hr, hrun, hended, _, _, rfl, (by show Q v T.heap locs; rw [eT]; exact hQ), ⟨_, rfl⟩, hW, hsame.mono hk hn⟩
theorem own_some {t : FieldType} {v : Option Value} (h : meth.sig.returnType = some t) : meth.sig.returnType = none → v = none := fun q => by rw [h] at q; cases q
theorem Goes.retI (X : Stand p l e R s m args below meth c T locs cells slots) (hx : p.tables.exec = Jvm.exec) (eT : T.heap = h) {pc : Nat} {Ls : Array Slot} {z : Int32} {rest : List Value} (hret : meth.sig.returnType = some .int) (hlk : meth.locks = false) (hd : decode c.code pc = .ok (.ireturn, 1)) (hk : cells ≤ k) (hn : slots ≤ n) (hQ : Q (some (.int z)) h locs) :
    Goes p e below s Q k n (T.setTop (mkF m pc Ls (.int z :: rest))) :=
  Goes.out X eT (own_some hret) hlk (fun fs hr => retOut X hx hret rfl (Or.inl ⟨rfl, Or.inl rfl, z, rfl⟩) hd hr) hk hn hQ
theorem Goes.retN (X : Stand p l e R s m args below meth c T locs cells slots) (hx : p.tables.exec = Jvm.exec) (eT : T.heap = h) {pc : Nat} {Ls : Array Slot} {z : Int32} {t : FieldType} {rest : List Value} (hret : meth.sig.returnType = some t) (ht : t = .boolean ∨ t = .byte ∨ t = .char ∨ t = .short) (hlk : meth.locks = false) (hd : decode c.code pc = .ok (.ireturn, 1)) (hk : cells ≤ k) (hn : slots ≤ n) (hQ : Q (some (.int (nar t z))) h locs) :
    Goes p e below s Q k n (T.setTop (mkF m pc Ls (.int z :: rest))) :=
  Goes.out X eT (own_some hret) hlk (fun fs hr => Jvm.RoadKit.retN X hx hret ht hd hr) hk hn hQ
theorem Goes.retV (X : Stand p l e R s m args below meth c T locs cells slots) (hx : p.tables.exec = Jvm.exec) (eT : T.heap = h) {pc : Nat} {Ls : Array Slot} (hret : meth.sig.returnType = none) (hlk : meth.locks = false) (hd : decode c.code pc = .ok (.return_, 1)) (hk : cells ≤ k) (hn : slots ≤ n) (hQ : Q none h locs) :
    Goes p e below s Q k n (T.setTop (mkF m pc Ls [])) :=
  Goes.out X eT (fun _ => rfl) hlk (fun fs hr => X.returnOut hx hret hd hr) hk hn hQ
theorem Goes.retJ (X : Stand p l e R s m args below meth c T locs cells slots) (hx : p.tables.exec = Jvm.exec) (eT : T.heap = h) {pc : Nat} {Ls : Array Slot} {z : Int64} {rest : List Value} (hret : meth.sig.returnType = some .long) (hlk : meth.locks = false) (hd : decode c.code pc = .ok (.lreturn, 1)) (hk : cells ≤ k) (hn : slots ≤ n) (hQ : Q (some (.long z)) h locs) :
    Goes p e below s Q k n (T.setTop (mkF m pc Ls (.long z :: rest))) :=
  Goes.out X eT (own_some hret) hlk (fun fs hr => retOut X hx hret rfl (Or.inr (Or.inl ⟨rfl, rfl, z, rfl⟩)) hd hr) hk hn hQ
theorem Goes.retD (X : Stand p l e R s m args below meth c T locs cells slots) (hx : p.tables.exec = Jvm.exec) (eT : T.heap = h) {pc : Nat} {Ls : Array Slot} {z : UInt64} {rest : List Value} (hret : meth.sig.returnType = some .double) (hlk : meth.locks = false) (hd : decode c.code pc = .ok (.dreturn, 1)) (hk : cells ≤ k) (hn : slots ≤ n) (hQ : Q (some (.double z)) h locs) :
    Goes p e below s Q k n (T.setTop (mkF m pc Ls (.double z :: rest))) :=
  Goes.out X eT (own_some hret) hlk (fun fs hr => retOut X hx hret rfl (Or.inr (Or.inr (Or.inl ⟨rfl, rfl, z, rfl⟩))) hd hr) hk hn hQ
theorem own_narR {t : FieldType} {w : Value} (h : t.isReference = true) : narrow t w = w := by cases t <;> first | rfl | (cases w <;> first | rfl | cases h)
theorem Goes.retA (X : Stand p l e R s m args below meth c T locs cells slots) (hx : p.tables.exec = Jvm.exec) (eT : T.heap = h) {pc : Nat} {Ls : Array Slot} {w : Value} {t : FieldType} {rest : List Value} (hret : meth.sig.returnType = some t) (ht : t.isReference = true) (hw : w.isRef = true) (hlk : meth.locks = false) (hd : decode c.code pc = .ok (.areturn, 1)) (hk : cells ≤ k) (hn : slots ≤ n) (hQ : Q (some w) h locs) :
    Goes p e below s Q k n (T.setTop (mkF m pc Ls (w :: rest))) :=
  Goes.out X eT (own_some hret) hlk (fun fs hr => retOut X hx hret (own_narR ht) (Or.inr (Or.inr (Or.inr (Or.inr ⟨rfl, ht, hw⟩)))) hd hr) hk hn hQ
theorem own_z {Z : State} {n0 : Nat} (O : Old Z n0 h) : n0 ≤ h.size := O.1 ▸ O.2.1
end Own
end Jvm.RoadKit
namespace Jvm.RoadKit
open Sem ClassFile Op Lib Jvm.Stand Jvm.Free Jvm.LawKit
section OwnW
variable {p : Program} {l : Launch} {e : Env} {R : Room} {s : State} {m : MethodId} {args : Array Value} {below : List Frame} {meth : Method} {c : Code} {T : State} {locs : List Loc} {cells slots : Nat} {Q : Option Value → Heap → List Loc → Prop} {k n : Nat} {A B : State} {h : Heap}
/-- the same, of a run that may intern String constants: the start s, its tables at hand vm0 -/
def GoesW (p : Program) (e : Env) (below : List Frame) (s : State) (Q : Option Value → Heap → List Loc → Prop) (k n : Nat) (A : State) : Prop :=
  ∃ s₂ o, Steps p.tables e below A s₂ ∧ s₂.status = .running ∧ Ended s₂ below o ∧ ∃ v L, o = .returned v ∧ Q v s₂.heap L ∧ ReturnedEndW s o s₂ L k n
theorem GoesW.step (q : ∀ t, Steps p.tables e below B t → Steps p.tables e below A t) (g : GoesW p e below s Q k n B) : GoesW p e below s Q k n A := by
  obtain ⟨s₂, o, h1, h2⟩ := g
  exact ⟨s₂, o, q _ h1, h2⟩
theorem GoesW.via (q : Steps p.tables e below A B) (g : GoesW p e below s Q k n B) : GoesW p e below s Q k n A := by
  obtain ⟨s₂, o, h1, h2⟩ := g
  exact ⟨s₂, o, q.trans h1, h2⟩
theorem GoesW.enter {g g' : JFrame} (q : g = g') (h : GoesW p e below s Q k n (T.setTop g')) : GoesW p e below s Q k n (T.setTop g) := q ▸ h
theorem GoesW.out {vm0 : Vm} {k0 : Nat} (X : Stand p l e R (s.setVm vm0) m args below meth c T locs cells slots) (hS : s.Since vm0 k0) (hk0 : k0 ≤ h.size) (eT : T.heap = h) {v : Option Value} (hv : meth.sig.returnType = none → v = none) (hlk : meth.locks = false)
    (hs : ∀ fs, (∀ (f : JFrame) (acts : List Action), f.method = m → f.locked = none → f.entered = [] → (doReturn e (T.setTop f) acts v).1 = T.setFrames fs) → Steps p.tables e below A (T.setFrames fs)) (hk : cells ≤ k) (hn : slots ≤ n) (hQ : Q v h locs) : GoesW p e below s Q k n A := by
  obtain ⟨fs, hr, hrun, hended, hW1, hW2, hW3, hW4⟩ := X.leaveW hS (by rw [eT]; exact hk0) (v := v) hv hlk
  exact ⟨_, _, hs fs hr, hrun, hended, _, _, rfl, (by show Q v T.heap locs; rw [eT]; exact hQ), hW1, hW2, hW3, hW4.mono hk hn⟩
theorem GoesW.retI {vm0 : Vm} {k0 : Nat} (X : Stand p l e R (s.setVm vm0) m args below meth c T locs cells slots) (hS : s.Since vm0 k0) (hk0 : k0 ≤ h.size) (hx : p.tables.exec = Jvm.exec) (eT : T.heap = h) {pc : Nat} {Ls : Array Slot} {z : Int32} {rest : List Value} (hret : meth.sig.returnType = some .int) (hlk : meth.locks = false) (hd : decode c.code pc = .ok (.ireturn, 1)) (hk : cells ≤ k) (hn : slots ≤ n) (hQ : Q (some (.int z)) h locs) :
    GoesW p e below s Q k n (T.setTop (mkF m pc Ls (.int z :: rest))) :=
  GoesW.out X hS hk0 eT (own_some hret) hlk (fun fs hr => retOut X hx hret rfl (Or.inl ⟨rfl, Or.inl rfl, z, rfl⟩) hd hr) hk hn hQ
theorem GoesW.retN {vm0 : Vm} {k0 : Nat} (X : Stand p l e R (s.setVm vm0) m args below meth c T locs cells slots) (hS : s.Since vm0 k0) (hk0 : k0 ≤ h.size) (hx : p.tables.exec = Jvm.exec) (eT : T.heap = h) {pc : Nat} {Ls : Array Slot} {z : Int32} {t : FieldType} {rest : List Value} (hret : meth.sig.returnType = some t) (ht : t = .boolean ∨ t = .byte ∨ t = .char ∨ t = .short) (hlk : meth.locks = false) (hd : decode c.code pc = .ok (.ireturn, 1)) (hk : cells ≤ k) (hn : slots ≤ n) (hQ : Q (some (.int (nar t z))) h locs) :
    GoesW p e below s Q k n (T.setTop (mkF m pc Ls (.int z :: rest))) :=
  GoesW.out X hS hk0 eT (own_some hret) hlk (fun fs hr => Jvm.RoadKit.retN X hx hret ht hd hr) hk hn hQ
theorem GoesW.retV {vm0 : Vm} {k0 : Nat} (X : Stand p l e R (s.setVm vm0) m args below meth c T locs cells slots) (hS : s.Since vm0 k0) (hk0 : k0 ≤ h.size) (hx : p.tables.exec = Jvm.exec) (eT : T.heap = h) {pc : Nat} {Ls : Array Slot} (hret : meth.sig.returnType = none) (hlk : meth.locks = false) (hd : decode c.code pc = .ok (.return_, 1)) (hk : cells ≤ k) (hn : slots ≤ n) (hQ : Q none h locs) :
    GoesW p e below s Q k n (T.setTop (mkF m pc Ls [])) :=
  GoesW.out X hS hk0 eT (fun _ => rfl) hlk (fun fs hr => X.returnOut hx hret hd hr) hk hn hQ
theorem GoesW.retJ {vm0 : Vm} {k0 : Nat} (X : Stand p l e R (s.setVm vm0) m args below meth c T locs cells slots) (hS : s.Since vm0 k0) (hk0 : k0 ≤ h.size) (hx : p.tables.exec = Jvm.exec) (eT : T.heap = h) {pc : Nat} {Ls : Array Slot} {z : Int64} {rest : List Value} (hret : meth.sig.returnType = some .long) (hlk : meth.locks = false) (hd : decode c.code pc = .ok (.lreturn, 1)) (hk : cells ≤ k) (hn : slots ≤ n) (hQ : Q (some (.long z)) h locs) :
    GoesW p e below s Q k n (T.setTop (mkF m pc Ls (.long z :: rest))) :=
  GoesW.out X hS hk0 eT (own_some hret) hlk (fun fs hr => retOut X hx hret rfl (Or.inr (Or.inl ⟨rfl, rfl, z, rfl⟩)) hd hr) hk hn hQ
theorem GoesW.retA {vm0 : Vm} {k0 : Nat} (X : Stand p l e R (s.setVm vm0) m args below meth c T locs cells slots) (hS : s.Since vm0 k0) (hk0 : k0 ≤ h.size) (hx : p.tables.exec = Jvm.exec) (eT : T.heap = h) {pc : Nat} {Ls : Array Slot} {w : Value} {t : FieldType} {rest : List Value} (hret : meth.sig.returnType = some t) (ht : t.isReference = true) (hw : w.isRef = true) (hlk : meth.locks = false) (hd : decode c.code pc = .ok (.areturn, 1)) (hk : cells ≤ k) (hn : slots ≤ n) (hQ : Q (some w) h locs) :
    GoesW p e below s Q k n (T.setTop (mkF m pc Ls (w :: rest))) :=
  GoesW.out X hS hk0 eT (own_some hret) hlk (fun fs hr => retOut X hx hret (own_narR ht) (Or.inr (Or.inr (Or.inr (Or.inr ⟨rfl, ht, hw⟩)))) hd hr) hk hn hQ
end OwnW
end Jvm.RoadKit
namespace Jvm.RoadKit
open Sem ClassFile Op Lib Jvm.Stand Jvm.Free Jvm.LawKit
section OwnH
variable {p : Program} {l : Launch} {e : Env} {R : Room} {s : State} {m : MethodId} {args : Array Value} {below : List Frame} {meth : Method} {c : Code} {T : State} {locs : List Loc} {cells slots : Nat} {Q : Option Value → Heap → List Loc → Prop} {k n : Nat} {A B : State} {h : Heap} {Z : State} {a0 : Array Value} {EL : List (String × Nat)}
def GoesH (p : Program) (e : Env) (below : List Frame) (s Z : State) (EL : List (String × Nat)) (Q : Option Value → Heap → List Loc → Prop) (k n : Nat) (A : State) : Prop :=
  ∃ s₂ o, Steps p.tables e below A s₂ ∧ s₂.status = .running ∧ Ended s₂ below o ∧ ∃ v L, o = .returned v ∧ Q v s₂.heap L ∧ CHr Z EL s.vm s.heap s₂.vm s₂.heap ∧ ReturnedEndW s o s₂ L k n
theorem GoesH.step (q : ∀ t, Steps p.tables e below B t → Steps p.tables e below A t) (g : GoesH p e below s Z EL Q k n B) : GoesH p e below s Z EL Q k n A := by
  obtain ⟨s₂, o, h1, h2⟩ := g
  exact ⟨s₂, o, q _ h1, h2⟩
theorem GoesH.via (q : Steps p.tables e below A B) (g : GoesH p e below s Z EL Q k n B) : GoesH p e below s Z EL Q k n A := by
  obtain ⟨s₂, o, h1, h2⟩ := g
  exact ⟨s₂, o, q.trans h1, h2⟩
theorem GoesH.enter {g g' : JFrame} (q : g = g') (h : GoesH p e below s Z EL Q k n (T.setTop g')) : GoesH p e below s Z EL Q k n (T.setTop g) := q ▸ h
theorem GoesH.out {vm0 : Vm} {k0 : Nat} (X : Stand p l e R (s.setVm vm0) m args below meth c T locs cells slots) (hS : s.Since vm0 k0) (hk0 : k0 ≤ h.size) (hZ : Z.Warmed39 (s.setVm vm0).vm) (hEL : EW Z a0 EL) (hCH : CHr Z EL s.vm s.heap vm0 h) (eT : T.heap = h) {v : Option Value} (hv : meth.sig.returnType = none → v = none) (hlk : meth.locks = false)
    (hs : ∀ fs, (∀ (f : JFrame) (acts : List Action), f.method = m → f.locked = none → f.entered = [] → (doReturn e (T.setTop f) acts v).1 = T.setFrames fs) → Steps p.tables e below A (T.setFrames fs)) (hk : cells ≤ k) (hn : slots ≤ n) (hQ : Q v h locs) : GoesH p e below s Z EL Q k n A := by
  obtain ⟨fs, hr, hrun, hended, hW1, hW2, hW3, hW4⟩ := X.leaveW hS (by rw [eT]; exact hk0) (v := v) hv hlk
  exact ⟨_, _, hs fs hr, hrun, hended, _, _, rfl, (by show Q v T.heap locs; rw [eT]; exact hQ), (by show CHr Z EL s.vm s.heap T.vm T.heap; rw [eT]; exact hCH.trans (CHv.at X hZ hEL hCH.1)), hW1, hW2, hW3, hW4.mono hk hn⟩
theorem GoesH.retI {vm0 : Vm} {k0 : Nat} (X : Stand p l e R (s.setVm vm0) m args below meth c T locs cells slots) (hS : s.Since vm0 k0) (hk0 : k0 ≤ h.size) (hZ : Z.Warmed39 (s.setVm vm0).vm) (hEL : EW Z a0 EL) (hCH : CHr Z EL s.vm s.heap vm0 h) (hx : p.tables.exec = Jvm.exec) (eT : T.heap = h) {pc : Nat} {Ls : Array Slot} {z : Int32} {rest : List Value} (hret : meth.sig.returnType = some .int) (hlk : meth.locks = false) (hd : decode c.code pc = .ok (.ireturn, 1)) (hk : cells ≤ k) (hn : slots ≤ n) (hQ : Q (some (.int z)) h locs) :
    GoesH p e below s Z EL Q k n (T.setTop (mkF m pc Ls (.int z :: rest))) :=
  GoesH.out X hS hk0 hZ hEL hCH eT (own_some hret) hlk (fun fs hr => retOut X hx hret rfl (Or.inl ⟨rfl, Or.inl rfl, z, rfl⟩) hd hr) hk hn hQ
theorem GoesH.retN {vm0 : Vm} {k0 : Nat} (X : Stand p l e R (s.setVm vm0) m args below meth c T locs cells slots) (hS : s.Since vm0 k0) (hk0 : k0 ≤ h.size) (hZ : Z.Warmed39 (s.setVm vm0).vm) (hEL : EW Z a0 EL) (hCH : CHr Z EL s.vm s.heap vm0 h) (hx : p.tables.exec = Jvm.exec) (eT : T.heap = h) {pc : Nat} {Ls : Array Slot} {z : Int32} {t : FieldType} {rest : List Value} (hret : meth.sig.returnType = some t) (ht : t = .boolean ∨ t = .byte ∨ t = .char ∨ t = .short) (hlk : meth.locks = false) (hd : decode c.code pc = .ok (.ireturn, 1)) (hk : cells ≤ k) (hn : slots ≤ n) (hQ : Q (some (.int (nar t z))) h locs) :
    GoesH p e below s Z EL Q k n (T.setTop (mkF m pc Ls (.int z :: rest))) :=
  GoesH.out X hS hk0 hZ hEL hCH eT (own_some hret) hlk (fun fs hr => Jvm.RoadKit.retN X hx hret ht hd hr) hk hn hQ
theorem GoesH.retV {vm0 : Vm} {k0 : Nat} (X : Stand p l e R (s.setVm vm0) m args below meth c T locs cells slots) (hS : s.Since vm0 k0) (hk0 : k0 ≤ h.size) (hZ : Z.Warmed39 (s.setVm vm0).vm) (hEL : EW Z a0 EL) (hCH : CHr Z EL s.vm s.heap vm0 h) (hx : p.tables.exec = Jvm.exec) (eT : T.heap = h) {pc : Nat} {Ls : Array Slot} (hret : meth.sig.returnType = none) (hlk : meth.locks = false) (hd : decode c.code pc = .ok (.return_, 1)) (hk : cells ≤ k) (hn : slots ≤ n) (hQ : Q none h locs) :
    GoesH p e below s Z EL Q k n (T.setTop (mkF m pc Ls [])) :=
  GoesH.out X hS hk0 hZ hEL hCH eT (fun _ => rfl) hlk (fun fs hr => X.returnOut hx hret hd hr) hk hn hQ
theorem GoesH.retJ {vm0 : Vm} {k0 : Nat} (X : Stand p l e R (s.setVm vm0) m args below meth c T locs cells slots) (hS : s.Since vm0 k0) (hk0 : k0 ≤ h.size) (hZ : Z.Warmed39 (s.setVm vm0).vm) (hEL : EW Z a0 EL) (hCH : CHr Z EL s.vm s.heap vm0 h) (hx : p.tables.exec = Jvm.exec) (eT : T.heap = h) {pc : Nat} {Ls : Array Slot} {z : Int64} {rest : List Value} (hret : meth.sig.returnType = some .long) (hlk : meth.locks = false) (hd : decode c.code pc = .ok (.lreturn, 1)) (hk : cells ≤ k) (hn : slots ≤ n) (hQ : Q (some (.long z)) h locs) :
    GoesH p e below s Z EL Q k n (T.setTop (mkF m pc Ls (.long z :: rest))) :=
  GoesH.out X hS hk0 hZ hEL hCH eT (own_some hret) hlk (fun fs hr => retOut X hx hret rfl (Or.inr (Or.inl ⟨rfl, rfl, z, rfl⟩)) hd hr) hk hn hQ
theorem GoesH.retA {vm0 : Vm} {k0 : Nat} (X : Stand p l e R (s.setVm vm0) m args below meth c T locs cells slots) (hS : s.Since vm0 k0) (hk0 : k0 ≤ h.size) (hZ : Z.Warmed39 (s.setVm vm0).vm) (hEL : EW Z a0 EL) (hCH : CHr Z EL s.vm s.heap vm0 h) (hx : p.tables.exec = Jvm.exec) (eT : T.heap = h) {pc : Nat} {Ls : Array Slot} {w : Value} {t : FieldType} {rest : List Value} (hret : meth.sig.returnType = some t) (ht : t.isReference = true) (hw : w.isRef = true) (hlk : meth.locks = false) (hd : decode c.code pc = .ok (.areturn, 1)) (hk : cells ≤ k) (hn : slots ≤ n) (hQ : Q (some w) h locs) :
    GoesH p e below s Z EL Q k n (T.setTop (mkF m pc Ls (w :: rest))) :=
  GoesH.out X hS hk0 hZ hEL hCH eT (own_some hret) hlk (fun fs hr => retOut X hx hret (own_narR ht) (Or.inr (Or.inr (Or.inr (Or.inr ⟨rfl, ht, hw⟩)))) hd hr) hk hn hQ
end OwnH
end Jvm.RoadKit
namespace Jvm.Pilot.@@N@@
open Jvm Jvm.ClassFile Sem Op Lib Jvm.Free Jvm.Stand Jvm.LawKit Jvm.RoadKit Bundle Jvm.Pilot.@@N@@.Jvm.D
def own_EL : List (String × Nat) := [("com/example/gridclear/gridclear/image/SideIndicatorsPinLaw", 7), ("com/example/gridclear/gridclear/image/SideIndicatorsPinLaw", 15), ("com/example/gridclear/gridclear/image/SideIndicatorsPinLaw", 17)]
theorem own_EW {Z : State} {a0 : Array Value} (hw : ∀ d ∈ tables_1, d.before a0 Z = true) : EW Z a0 own_EL := (EW.cons (hw _ (List.mem_of_getElem? (i := 31) rfl)) (by decide) (EW.cons (hw _ (List.mem_of_getElem? (i := 52) rfl)) (by decide) (EW.cons (hw _ (List.mem_of_getElem? (i := 53) rfl)) (by decide) (fun p hp => nomatch hp))))
theorem own_eqI {args : Array Value} {first s : State} {o : Option Outcome} {idx : List Nat} {t : Term} {v : Int32} (h : (Jvm.Cond.eq t (.int v)).value args first o s idx = some true) : t.eval args first o idx s = some (.int v) := by
  obtain ⟨x, y, hx, hy, k1, k2⟩ := cmp_v (Or.inl h)
  rw [Term.int_eval] at hy
  obtain rfl := Option.some.inj hy
  obtain ⟨z, rfl⟩ := k2
  have q : z = v := by simpa [Jvm.Cond.value, hx, Term.int_eval] using h
  rw [hx, q]
theorem own_eqR {args : Array Value} {first s : State} {o : Option Outcome} {idx : List Nat} {t u : Term} {a : Addr} (hu : u.eval args first o idx s = some (.ref a)) (h : (Jvm.Cond.eq t u).value args first o s idx = some true) : t.eval args first o idx s = some (.ref a) := by
  obtain ⟨x, y, hx, hy, k1, k2⟩ := cmp_v (Or.inl h)
  obtain rfl := Option.some.inj (hu.symm.trans hy)
  obtain ⟨-, q⟩ := k2
  have q2 := gotT (eq_R hx hu q rfl) h
  rw [hx, q2]
theorem own_len {args : Array Value} {s : State} {t : Term} {n : Int32} {a : Addr} {cl : Cell} {ty : FieldType} (A : Arr s s.heap a cl ty) (ev : t.eval args s none [] s = some (.ref a)) (h : (Jvm.Cond.eq (.length t) (.int n)).value args s none s [] = some true) : cl.slots.size < 2 ^ 31 ∧ cl.slots.size.toInt32 = n := by
  have q := own_eqI h
  have f := A.fin (Vm.Alike.refl _)
  by_cases hl : cl.slots.size < 2 ^ 31
  · rw [len_f ev f hl] at q
    exact ⟨hl, Value.int.inj (Option.some.inj q)⟩
  · simp [Term.eval, ev, f, hl] at q
theorem own_el {args : Array Value} {s : State} {t : Term} {j v : Int32} {a : Addr} {cl : Cell} {ty : FieldType} (A : Arr s s.heap a cl ty) (ev : t.eval args s none [] s = some (.ref a)) (h : (Jvm.Cond.eq (.elem t (.int j)) (.int v)).value args s none s [] = some true) : cl.slots[j.toNatClampNeg]? = some (.int v) := (elem_in (own_eqI h) ev (Term.int_eval j) A.1).2
theorem own_elR {args : Array Value} {s : State} {t u : Term} {j : Int32} {a b : Addr} {cl : Cell} {ty : FieldType} (A : Arr s s.heap a cl ty) (ev : t.eval args s none [] s = some (.ref a)) (hu : u.eval args s none [] s = some (.ref b)) (h : (Jvm.Cond.eq (.elem t (.int j)) u).value args s none s [] = some true) : cl.slots[j.toNatClampNeg]? = some (.ref b) := (elem_in (own_eqR hu h) ev (Term.int_eval j) A.1).2
def OwnSt (Z : State) (a__VALUES : Addr) (a_FRONT_BW : Addr) (a_BACK_BW : Addr) (a_FRONT_GREY : Addr) (a_FRONT_BW_indicator : Addr) (a_BACK_BW_indicator : Addr) (a_FRONT_GREY_indicator : Addr) (a_FRONT_BW_indicator_value : Addr) (a_BACK_BW_indicator_value : Addr) (a_FRONT_GREY_indicator_value : Addr) (k__VALUES : ClassId) (k_FRONT_BW_indicator_value : ClassId) (k_BACK_BW_indicator_value : ClassId) (k_FRONT_GREY_indicator_value : ClassId) (cs : Int32) : Prop := Sta Z Z.heap "com/example/gridclear/gridclear/image/ImageView$Side" "$VALUES" "[Lcom/example/gridclear/gridclear/image/ImageView$Side;" (.ref a__VALUES) ∧ Exa Z Z.heap a__VALUES "[Lcom/example/gridclear/gridclear/image/ImageView$Side;" ∧ Sta Z Z.heap "com/example/gridclear/gridclear/image/ImageView$Side" "FRONT_BW" "Lcom/example/gridclear/gridclear/image/ImageView$Side;" (.ref a_FRONT_BW) ∧ Exa Z Z.heap a_FRONT_BW "com/example/gridclear/gridclear/image/ImageView$Side" ∧ Sta Z Z.heap "com/example/gridclear/gridclear/image/ImageView$Side" "BACK_BW" "Lcom/example/gridclear/gridclear/image/ImageView$Side;" (.ref a_BACK_BW) ∧ Exa Z Z.heap a_BACK_BW "com/example/gridclear/gridclear/image/ImageView$Side" ∧ Sta Z Z.heap "com/example/gridclear/gridclear/image/ImageView$Side" "FRONT_GREY" "Lcom/example/gridclear/gridclear/image/ImageView$Side;" (.ref a_FRONT_GREY) ∧ Exa Z Z.heap a_FRONT_GREY "com/example/gridclear/gridclear/image/ImageView$Side" ∧ Fld Z Z.heap a_FRONT_BW "com/example/gridclear/gridclear/image/ImageView$Side" "indicator" "Ljava/lang/String;" (.ref a_FRONT_BW_indicator) ∧ Exa Z Z.heap a_FRONT_BW_indicator "java/lang/String" ∧ Fld Z Z.heap a_BACK_BW "com/example/gridclear/gridclear/image/ImageView$Side" "indicator" "Ljava/lang/String;" (.ref a_BACK_BW_indicator) ∧ Exa Z Z.heap a_BACK_BW_indicator "java/lang/String" ∧ Fld Z Z.heap a_FRONT_GREY "com/example/gridclear/gridclear/image/ImageView$Side" "indicator" "Ljava/lang/String;" (.ref a_FRONT_GREY_indicator) ∧ Exa Z Z.heap a_FRONT_GREY_indicator "java/lang/String" ∧ Fld Z Z.heap a_FRONT_BW_indicator "java/lang/String" "coder" "B" (.int (0 : Int32)) ∧ Fld Z Z.heap a_FRONT_BW_indicator "java/lang/String" "value" "[B" (.ref a_FRONT_BW_indicator_value) ∧ Fld Z Z.heap a_BACK_BW_indicator "java/lang/String" "coder" "B" (.int (0 : Int32)) ∧ Fld Z Z.heap a_BACK_BW_indicator "java/lang/String" "value" "[B" (.ref a_BACK_BW_indicator_value) ∧ Fld Z Z.heap a_FRONT_GREY_indicator "java/lang/String" "coder" "B" (.int (0 : Int32)) ∧ Fld Z Z.heap a_FRONT_GREY_indicator "java/lang/String" "value" "[B" (.ref a_FRONT_GREY_indicator_value) ∧ a_FRONT_BW_indicator ≠ a_FRONT_GREY_indicator ∧ a_BACK_BW_indicator ≠ a_FRONT_GREY_indicator ∧ a_BACK_BW_indicator ≠ a_FRONT_BW_indicator ∧ Arv Z Z.heap a__VALUES k__VALUES (.object "com/example/gridclear/gridclear/image/ImageView$Side") (3 : Int32) [(.ref a_FRONT_BW), (.ref a_BACK_BW), (.ref a_FRONT_GREY)] .null ∧ Arv Z Z.heap a_FRONT_BW_indicator_value k_FRONT_BW_indicator_value .byte (8 : Int32) [(.int (70 : Int32)), (.int (114 : Int32)), (.int (111 : Int32)), (.int (110 : Int32)), (.int (116 : Int32)), (.int (32 : Int32)), (.int (66 : Int32)), (.int (87 : Int32))] (.int (0 : Int32)) ∧ Arv Z Z.heap a_BACK_BW_indicator_value k_BACK_BW_indicator_value .byte (7 : Int32) [(.int (66 : Int32)), (.int (97 : Int32)), (.int (99 : Int32)), (.int (107 : Int32)), (.int (32 : Int32)), (.int (66 : Int32)), (.int (87 : Int32))] (.int (0 : Int32)) ∧ Arv Z Z.heap a_FRONT_GREY_indicator_value k_FRONT_GREY_indicator_value .byte (10 : Int32) [(.int (70 : Int32)), (.int (114 : Int32)), (.int (111 : Int32)), (.int (110 : Int32)), (.int (116 : Int32)), (.int (32 : Int32)), (.int (71 : Int32)), (.int (114 : Int32)), (.int (97 : Int32)), (.int (121 : Int32))] (.int (0 : Int32)) ∧ Sta Z Z.heap "java/lang/String" "COMPACT_STRINGS" "Z" (.int cs) ∧ ¬ cs = (0 : Int32)
theorem own_neV {Z : State} {h : Heap} {b b' : Addr} {k k' : ClassId} {ty ty' : FieldType} {z z' : Int32} {vs vs' : List Value} {d d' : Value} (A : Arv Z h b k ty z vs d) (B : Arv Z h b' k' ty' z' vs' d') (q : z.toNatClampNeg ≠ z'.toNatClampNeg) : b ≠ b' := fun e => by
  subst e
  obtain ⟨c1, A1, -, s1, -⟩ := A
  obtain ⟨c2, A2, -, s2, -⟩ := B
  have e2 : c1 = c2 := Option.some.inj (A1.1.symm.trans A2.1)
  rw [← e2, s1] at s2
  exact q s2
theorem own_refne {a b : Addr} (h : a ≠ b) : Value.ref a ≠ Value.ref b := fun q => h (Value.ref.inj q)
theorem own_m3 {x z : Int32} (h : z = ((x &&& (2147483647 : Int32)) % (3 : Int32))) : z = 0 ∨ z = 1 ∨ z = 2 := by
  have a := c_mask x 2147483647 31 (by decide) (by decide)
  have b := (c_irem (x &&& 2147483647) 3 3 (by decide)).1 (by rw [a]; omega)
  rw [← h] at b
  have q : z.toInt = 0 ∨ z.toInt = 1 ∨ z.toInt = 2 := by omega
  rcases q with q | q | q
  · exact Or.inl (Int32.toInt_inj.mp q)
  · exact Or.inr (Or.inl (Int32.toInt_inj.mp q))
  · exact Or.inr (Or.inr (Int32.toInt_inj.mp q))
theorem own_ch {x c : Int32} (h : c = ((x &&& (255 : Int32)).toUInt32.toUInt16.toUInt32.toInt32)) : ¬ (255 : Int32) < nar .char c := by
  have a := c_mask x 255 8 (by decide) (by decide)
  rw [i2c_mask] at h
  have b := c_i2c c
  rw [← h] at a
  show ¬ (255 : Int32) < c.toUInt32.toUInt16.toUInt32.toInt32
  rw [Int32.lt_iff_toInt_lt]
  have e : (255 : Int32).toInt = 255 := by decide
  omega
theorem d2_0 : decode prog_73_method_1_code 0 = .ok (.getstatic 13, 3) := by decide +kernel
theorem d2_3 : decode prog_73_method_1_code 3 = .ok (.invokevirtual 17, 3) := by decide +kernel
theorem d2_6 : decode prog_73_method_1_code 6 = .ok (.checkcast 18, 3) := by decide +kernel
theorem d2_9 : decode prog_73_method_1_code 9 = .ok (.areturn, 1) := by decide +kernel
theorem pn_ImageView_Side : plainName "com/example/gridclear/gridclear/image/ImageView$Side" = true := by first | (simp [plainName, overriddenIn]; done) | decide +kernel
theorem ef_rm2 (m : MethodId)  : entryFrame m #[] 0 = mkF m 0 #[] [] := by first | (simp [entryFrame, mkF, argsToLocals, Value.category]; done) | rfl
def Q2 (Z : State) (a__VALUES : Addr) (a_FRONT_BW : Addr) (a_BACK_BW : Addr) (a_FRONT_GREY : Addr) (a_FRONT_BW_indicator : Addr) (a_BACK_BW_indicator : Addr) (a_FRONT_GREY_indicator : Addr) (a_FRONT_BW_indicator_value : Addr) (a_BACK_BW_indicator_value : Addr) (a_FRONT_GREY_indicator_value : Addr) (k__VALUES : ClassId) (k_FRONT_BW_indicator_value : ClassId) (k_BACK_BW_indicator_value : ClassId) (k_FRONT_GREY_indicator_value : ClassId) (cs : Int32) (h0 : Heap) (n0 : Nat) (v : Option Value) (h : Heap) (L : List Loc) : Prop := ∃ (b : Addr) (k : ClassId), v = some (.ref b) ∧ Fr n0 L ∧ Keep h0 h [] ∧ n0 ≤ b ∧ h0.size ≤ b ∧ Arv Z h b k (.object "com/example/gridclear/gridclear/image/ImageView$Side") (3 : Int32) [(.ref a_FRONT_BW), (.ref a_BACK_BW), (.ref a_FRONT_GREY)] .null ∧ Exa Z h b "[Lcom/example/gridclear/gridclear/image/ImageView$Side;"
set_option maxRecDepth 65536 in
set_option maxHeartbeats 40000000 in
theorem rm2 (l : Launch) (Z : State) (a0 : Array Value) (hw : ∀ d ∈ tables_1, d.before a0 Z = true) (ws : List Jvm.Cond) (a__VALUES : Addr) (a_FRONT_BW : Addr) (a_BACK_BW : Addr) (a_FRONT_GREY : Addr) (a_FRONT_BW_indicator : Addr) (a_BACK_BW_indicator : Addr) (a_FRONT_GREY_indicator : Addr) (a_FRONT_BW_indicator_value : Addr) (a_BACK_BW_indicator_value : Addr) (a_FRONT_GREY_indicator_value : Addr) (k__VALUES : ClassId) (k_FRONT_BW_indicator_value : ClassId) (k_BACK_BW_indicator_value : ClassId) (k_FRONT_GREY_indicator_value : ClassId) (cs : Int32) (h0 : Heap) (n0 : Nat) (O0 : Old Z n0 h0) (FS : OwnSt Z a__VALUES a_FRONT_BW a_BACK_BW a_FRONT_GREY a_FRONT_BW_indicator a_BACK_BW_indicator a_FRONT_GREY_indicator a_FRONT_BW_indicator_value a_BACK_BW_indicator_value a_FRONT_GREY_indicator_value k__VALUES k_FRONT_BW_indicator_value k_BACK_BW_indicator_value k_FRONT_GREY_indicator_value cs) :
    MetFree l (⟨"com/example/gridclear/gridclear/image/ImageView$Side", "values", "()[Lcom/example/gridclear/gridclear/image/ImageView$Side;"⟩ : MethodName) (head1 (Jvm.Cond.code (⟨"com/example/gridclear/gridclear/image/ImageView$Side", "values", "()[Lcom/example/gridclear/gridclear/image/ImageView$Side;"⟩ : MethodName) prog_73_method_1_code 0 (some (.array (.object "com/example/gridclear/gridclear/image/ImageView$Side"))) :: ws) ({ frames := 1, cells := 1, slots := 3, locals := 14 } : Room)) (fun a U => a = #[] ∧ Z.Warmed39 U.vm ∧ U.heap = h0) (fun _ _ _ _ _ => True) (fun _ U o U' => ∃ v L, o = .returned v ∧ Q2 Z a__VALUES a_FRONT_BW a_BACK_BW a_FRONT_GREY a_FRONT_BW_indicator a_BACK_BW_indicator a_FRONT_GREY_indicator a_FRONT_BW_indicator_value a_BACK_BW_indicator_value a_FRONT_GREY_indicator_value k__VALUES k_FRONT_BW_indicator_value k_BACK_BW_indicator_value k_FRONT_GREY_indicator_value cs h0 n0 v U'.heap L ∧ FrameEnd U o U' L ({ frames := 1, cells := 1, slots := 3, locals := 14 } : Room).cells ({ frames := 1, cells := 1, slots := 3, locals := 14 } : Room).slots) := by
  refine MetFree.of_bodySF (plainFor_of_name pn_ImageView_Side) hisR ?_
  intro p e s m args below meth c s₁ Bd hml0 hP hK
  obtain ⟨rfl, hZ, hh⟩ := hP
  have hx := Bd.exec
  have hby := Bd.bytes
  have hlk : meth.locks = false := BodyLoose.notSynchronized Bd
  have hml : c.maxLocals = 0 := hml0
  have hown : s.vm.findClass "com/example/gridclear/gridclear/image/ImageView$Side" = some m.cls := findClass_of_methodNamed Bd.named
  have hnm := (name_of_methodNamed Bd.named Bd.method).1
  have X0 : Stand p l e ({ frames := 1, cells := 1, slots := 3, locals := 14 } : Room) s m #[] below meth c s₁ [] 0 0 := Stand.of_body Bd
  have e0 : s₁.heap = h0 := by rw [← hh, Bd.state]; rfl
  have N0 := Fr.nil n0
  show Goes p e below s (Q2 Z a__VALUES a_FRONT_BW a_BACK_BW a_FRONT_GREY a_FRONT_BW_indicator a_BACK_BW_indicator a_FRONT_GREY_indicator a_FRONT_BW_indicator_value a_BACK_BW_indicator_value a_FRONT_GREY_indicator_value k__VALUES k_FRONT_BW_indicator_value k_BACK_BW_indicator_value k_FRONT_GREY_indicator_value cs h0 n0) ({ frames := 1, cells := 1, slots := 3, locals := 14 } : Room).cells ({ frames := 1, cells := 1, slots := 3, locals := 14 } : Room).slots (s₁.setTop (entryFrame m #[] 0))
  refine Goes.enter (g' := (mkF m 0 #[] [])) (ef_rm2 m ) ?_
  have FS0 := FS
  obtain ⟨S__VALUES, E__VALUES, S_FRONT_BW, E_FRONT_BW, S_BACK_BW, E_BACK_BW, S_FRONT_GREY, E_FRONT_GREY, F_FRONT_BW_indicator, E_FRONT_BW_indicator, F_BACK_BW_indicator, E_BACK_BW_indicator, F_FRONT_GREY_indicator, E_FRONT_GREY_indicator, F_FRONT_BW_indicator_coder, F_FRONT_BW_indicator_value, F_BACK_BW_indicator_coder, F_BACK_BW_indicator_value, F_FRONT_GREY_indicator_coder, F_FRONT_GREY_indicator_value, ne_a_FRONT_BW_indicator_a_FRONT_GREY_indicator, ne_a_BACK_BW_indicator_a_FRONT_GREY_indicator, ne_a_BACK_BW_indicator_a_FRONT_BW_indicator, V__VALUES, V_FRONT_BW_indicator_value, V_BACK_BW_indicator_value, V_FRONT_GREY_indicator_value, S_COMPACT_STRINGS, hcs⟩ := FS0
  have f1 := S__VALUES.ext O0.2
  obtain ⟨T2, X2, e2, st2⟩ := getS2 X0 hx hZ hown (host := "") (Or.inl (hw _ (List.mem_of_getElem? (i := 7) rfl))) Via.refl e0 f1 (g := (mkF m 0 #[] [])) rfl (hb hby d2_0)
  refine Goes.step (B := T2.setTop (mkF m 3 #[] [(.ref a__VALUES)])) st2 ?_
  have f4 := V__VALUES.ext O0.2
  have f5 := E__VALUES.ext O0.2
  obtain ⟨T3, h3, X3, e3, E3, A3, G3, st3⟩ := cloneH X2 hx hZ hown (hw _ (List.mem_of_getElem? (i := 9) rfl)) (hw _ (List.mem_of_getElem? (i := 10) rfl)) (hw _ (List.mem_of_getElem? (i := 14) rfl)) (hw _ (List.mem_of_getElem? (i := 12) rfl)) (hw _ (List.mem_of_getElem? (i := 13) rfl)) (hw _ (List.mem_of_getElem? (i := 15) rfl)) e2 (Arv.arh f4) f5 (g := (mkF m 3 #[] [(.ref a__VALUES)])) rfl (by rw [hml]; rfl) (rest := []) rfl (hb hby d2_3) (by decide) (W := 0) (cap := 3) (by show 2 * 0 + _ ≤ _; exact Nat.le_of_eq rfl) (by decide) (by decide) (by decide) (by decide)
  obtain ⟨b3, g3⟩ : ∃ z, z = h0.size := ⟨_, rfl⟩
  rw [← g3] at A3 G3 st3
  have ne_a__VALUES_b3 : a__VALUES ≠ b3 := Nat.ne_of_lt (Nat.lt_of_lt_of_le f5.lt (Nat.le_of_eq g3.symm))
  have f6 := E_FRONT_BW.ext O0.2
  have ne_a_FRONT_BW_b3 : a_FRONT_BW ≠ b3 := Nat.ne_of_lt (Nat.lt_of_lt_of_le f6.lt (Nat.le_of_eq g3.symm))
  have f7 := E_BACK_BW.ext O0.2
  have ne_a_BACK_BW_b3 : a_BACK_BW ≠ b3 := Nat.ne_of_lt (Nat.lt_of_lt_of_le f7.lt (Nat.le_of_eq g3.symm))
  have f8 := E_FRONT_GREY.ext O0.2
  have ne_a_FRONT_GREY_b3 : a_FRONT_GREY ≠ b3 := Nat.ne_of_lt (Nat.lt_of_lt_of_le f8.lt (Nat.le_of_eq g3.symm))
  have f9 := E_FRONT_BW_indicator.ext O0.2
  have ne_a_FRONT_BW_indicator_b3 : a_FRONT_BW_indicator ≠ b3 := Nat.ne_of_lt (Nat.lt_of_lt_of_le f9.lt (Nat.le_of_eq g3.symm))
  have f10 := E_BACK_BW_indicator.ext O0.2
  have ne_a_BACK_BW_indicator_b3 : a_BACK_BW_indicator ≠ b3 := Nat.ne_of_lt (Nat.lt_of_lt_of_le f10.lt (Nat.le_of_eq g3.symm))
  have f11 := E_FRONT_GREY_indicator.ext O0.2
  have ne_a_FRONT_GREY_indicator_b3 : a_FRONT_GREY_indicator ≠ b3 := Nat.ne_of_lt (Nat.lt_of_lt_of_le f11.lt (Nat.le_of_eq g3.symm))
  have f12 := V_FRONT_BW_indicator_value.ext O0.2
  have ne_a_FRONT_BW_indicator_value_b3 : a_FRONT_BW_indicator_value ≠ b3 := Nat.ne_of_lt (Nat.lt_of_lt_of_le f12.lt (Nat.le_of_eq g3.symm))
  have f13 := V_BACK_BW_indicator_value.ext O0.2
  have ne_a_BACK_BW_indicator_value_b3 : a_BACK_BW_indicator_value ≠ b3 := Nat.ne_of_lt (Nat.lt_of_lt_of_le f13.lt (Nat.le_of_eq g3.symm))
  have f14 := V_FRONT_GREY_indicator_value.ext O0.2
  have ne_a_FRONT_GREY_indicator_value_b3 : a_FRONT_GREY_indicator_value ≠ b3 := Nat.ne_of_lt (Nat.lt_of_lt_of_le f14.lt (Nat.le_of_eq g3.symm))
  have g_b3 : n0 ≤ b3 := Nat.le_trans (own_z O0) (Nat.le_of_eq g3.symm)
  have O_3 := O0.ext E3
  have sz_b3 : h0.size ≤ b3 := Nat.le_trans (Keep.refl h0 []).1 (Nat.le_of_eq g3.symm)
  have K_3 := (Keep.refl h0 []).ext E3
  have V_b3 : Arv Z h3 b3 k__VALUES (.object "com/example/gridclear/gridclear/image/ImageView$Side") (3 : Int32) [(.ref a_FRONT_BW), (.ref a_BACK_BW), (.ref a_FRONT_GREY)] .null := A3
  refine Goes.step (B := T3.setTop (mkF m 6 #[] [(.ref b3)])) st3 ?_
  obtain ⟨T15, X15, e15, st15⟩ := castY X3 hx hZ hown (hw _ (List.mem_of_getElem? (i := 20) rfl)) e3 (Ins.self G3) (g := (mkF m 6 #[] [(.ref b3)])) rfl rfl (hb hby d2_6)
  refine Goes.step (B := T15.setTop (mkF m 9 #[] [(.ref b3)])) st15 ?_
  exact Goes.retA X15 hx e15 Bd.returns rfl rfl hlk (hb hby d2_9) (by decide) (by decide) (⟨b3, k__VALUES, rfl, N0, K_3, g_b3, sz_b3, V_b3, G3⟩)
theorem d1_0 : decode prog_73_method_6_code 0 = .ok (.invokestatic 39, 3) := by decide +kernel
theorem pd_0 : parseMethodDescriptor "()[Lcom/example/gridclear/gridclear/image/ImageView$Side;" = some ⟨[], some (.array (.object "com/example/gridclear/gridclear/image/ImageView$Side"))⟩ := by decide +kernel
theorem d1_3 : decode prog_73_method_6_code 3 = .ok (.astore_n 0, 1) := by decide +kernel
theorem d1_4 : decode prog_73_method_6_code 4 = .ok (.aload_n 0, 1) := by decide +kernel
theorem d1_5 : decode prog_73_method_6_code 5 = .ok (.arraylength, 1) := by decide +kernel
theorem d1_6 : decode prog_73_method_6_code 6 = .ok (.anewarray 43, 3) := by decide +kernel
theorem d1_9 : decode prog_73_method_6_code 9 = .ok (.astore_n 1, 1) := by decide +kernel
theorem d1_10 : decode prog_73_method_6_code 10 = .ok (.iconst 0, 1) := by decide +kernel
theorem d1_11 : decode prog_73_method_6_code 11 = .ok (.istore_n 2, 1) := by decide +kernel
theorem d1_12 : decode prog_73_method_6_code 12 = .ok (.iload_n 2, 1) := by decide +kernel
theorem d1_13 : decode prog_73_method_6_code 13 = .ok (.aload_n 0, 1) := by decide +kernel
theorem d1_14 : decode prog_73_method_6_code 14 = .ok (.arraylength, 1) := by decide +kernel
theorem d1_15 : decode prog_73_method_6_code 15 = .ok (.if_icmp .ge 18, 3) := by decide +kernel
theorem d1_18 : decode prog_73_method_6_code 18 = .ok (.aload_n 1, 1) := by decide +kernel
theorem d1_19 : decode prog_73_method_6_code 19 = .ok (.iload_n 2, 1) := by decide +kernel
theorem d1_20 : decode prog_73_method_6_code 20 = .ok (.aload_n 0, 1) := by decide +kernel
theorem d1_21 : decode prog_73_method_6_code 21 = .ok (.iload_n 2, 1) := by decide +kernel
theorem d1_22 : decode prog_73_method_6_code 22 = .ok (.aaload, 1) := by decide +kernel
theorem d1_23 : decode prog_73_method_6_code 23 = .ok (.getfield 32, 3) := by decide +kernel
theorem d1_26 : decode prog_73_method_6_code 26 = .ok (.aastore, 1) := by decide +kernel
theorem d1_27 : decode prog_73_method_6_code 27 = .ok (.iinc 2 1, 3) := by decide +kernel
theorem d1_30 : decode prog_73_method_6_code 30 = .ok (.goto (-18), 3) := by decide +kernel
theorem d1_33 : decode prog_73_method_6_code 33 = .ok (.aload_n 1, 1) := by decide +kernel
theorem d1_34 : decode prog_73_method_6_code 34 = .ok (.areturn, 1) := by decide +kernel
theorem ef_rm1 (m : MethodId)  : entryFrame m #[] 3 = mkF m 0 #[.unset, .unset, .unset] [] := by first | (simp [entryFrame, mkF, argsToLocals, Value.category]; done) | rfl
def Q1 (Z : State) (a__VALUES : Addr) (a_FRONT_BW : Addr) (a_BACK_BW : Addr) (a_FRONT_GREY : Addr) (a_FRONT_BW_indicator : Addr) (a_BACK_BW_indicator : Addr) (a_FRONT_GREY_indicator : Addr) (a_FRONT_BW_indicator_value : Addr) (a_BACK_BW_indicator_value : Addr) (a_FRONT_GREY_indicator_value : Addr) (k__VALUES : ClassId) (k_FRONT_BW_indicator_value : ClassId) (k_BACK_BW_indicator_value : ClassId) (k_FRONT_GREY_indicator_value : ClassId) (cs : Int32) (h0 : Heap) (n0 : Nat) (v : Option Value) (h : Heap) (L : List Loc) : Prop := ∃ (b : Addr) (k : ClassId), v = some (.ref b) ∧ Fr n0 L ∧ Keep h0 h [] ∧ n0 ≤ b ∧ h0.size ≤ b ∧ Arv Z h b k (.object "java/lang/String") (3 : Int32) [(.ref a_FRONT_BW_indicator), (.ref a_BACK_BW_indicator), (.ref a_FRONT_GREY_indicator)] .null ∧ Ovr Z k "java/lang/String"
set_option maxRecDepth 65536 in
set_option maxHeartbeats 40000000 in
theorem rm1 (l : Launch) (Z : State) (a0 : Array Value) (hw : ∀ d ∈ tables_1, d.before a0 Z = true) (ws : List Jvm.Cond) (a__VALUES : Addr) (a_FRONT_BW : Addr) (a_BACK_BW : Addr) (a_FRONT_GREY : Addr) (a_FRONT_BW_indicator : Addr) (a_BACK_BW_indicator : Addr) (a_FRONT_GREY_indicator : Addr) (a_FRONT_BW_indicator_value : Addr) (a_BACK_BW_indicator_value : Addr) (a_FRONT_GREY_indicator_value : Addr) (k__VALUES : ClassId) (k_FRONT_BW_indicator_value : ClassId) (k_BACK_BW_indicator_value : ClassId) (k_FRONT_GREY_indicator_value : ClassId) (cs : Int32) (h0 : Heap) (n0 : Nat) (O0 : Old Z n0 h0) (FS : OwnSt Z a__VALUES a_FRONT_BW a_BACK_BW a_FRONT_GREY a_FRONT_BW_indicator a_BACK_BW_indicator a_FRONT_GREY_indicator a_FRONT_BW_indicator_value a_BACK_BW_indicator_value a_FRONT_GREY_indicator_value k__VALUES k_FRONT_BW_indicator_value k_BACK_BW_indicator_value k_FRONT_GREY_indicator_value cs) :
    MetFree l (⟨"com/example/gridclear/gridclear/image/ImageView$Side", "indicators", "()[Ljava/lang/String;"⟩ : MethodName) (head1 (Jvm.Cond.code (⟨"com/example/gridclear/gridclear/image/ImageView$Side", "indicators", "()[Ljava/lang/String;"⟩ : MethodName) prog_73_method_6_code 3 (some (.array (.object "java/lang/String"))) :: ws) ({ frames := 2, cells := 2, slots := 6, locals := 25 } : Room)) (fun a U => a = #[] ∧ Z.Warmed39 U.vm ∧ U.heap = h0) (fun _ _ _ _ _ => True) (fun _ U o U' => ∃ v L, o = .returned v ∧ Q1 Z a__VALUES a_FRONT_BW a_BACK_BW a_FRONT_GREY a_FRONT_BW_indicator a_BACK_BW_indicator a_FRONT_GREY_indicator a_FRONT_BW_indicator_value a_BACK_BW_indicator_value a_FRONT_GREY_indicator_value k__VALUES k_FRONT_BW_indicator_value k_BACK_BW_indicator_value k_FRONT_GREY_indicator_value cs h0 n0 v U'.heap L ∧ FrameEnd U o U' L ({ frames := 2, cells := 2, slots := 6, locals := 25 } : Room).cells ({ frames := 2, cells := 2, slots := 6, locals := 25 } : Room).slots) := by
  refine MetFree.of_bodySF (plainFor_of_name pn_ImageView_Side) hisR ?_
  intro p e s m args below meth c s₁ Bd hml0 hP hK
  obtain ⟨rfl, hZ, hh⟩ := hP
  have hx := Bd.exec
  have hby := Bd.bytes
  have hlk : meth.locks = false := BodyLoose.notSynchronized Bd
  have hml : c.maxLocals = 3 := hml0
  have hown : s.vm.findClass "com/example/gridclear/gridclear/image/ImageView$Side" = some m.cls := findClass_of_methodNamed Bd.named
  have hnm := (name_of_methodNamed Bd.named Bd.method).1
  have X0 : Stand p l e ({ frames := 2, cells := 2, slots := 6, locals := 25 } : Room) s m #[] below meth c s₁ [] 0 0 := Stand.of_body Bd
  have e0 : s₁.heap = h0 := by rw [← hh, Bd.state]; rfl
  have N0 := Fr.nil n0
  show Goes p e below s (Q1 Z a__VALUES a_FRONT_BW a_BACK_BW a_FRONT_GREY a_FRONT_BW_indicator a_BACK_BW_indicator a_FRONT_GREY_indicator a_FRONT_BW_indicator_value a_BACK_BW_indicator_value a_FRONT_GREY_indicator_value k__VALUES k_FRONT_BW_indicator_value k_BACK_BW_indicator_value k_FRONT_GREY_indicator_value cs h0 n0) ({ frames := 2, cells := 2, slots := 6, locals := 25 } : Room).cells ({ frames := 2, cells := 2, slots := 6, locals := 25 } : Room).slots (s₁.setTop (entryFrame m #[] 3))
  refine Goes.enter (g' := (mkF m 0 #[.unset, .unset, .unset] [])) (ef_rm1 m ) ?_
  have FS0 := FS
  obtain ⟨S__VALUES, E__VALUES, S_FRONT_BW, E_FRONT_BW, S_BACK_BW, E_BACK_BW, S_FRONT_GREY, E_FRONT_GREY, F_FRONT_BW_indicator, E_FRONT_BW_indicator, F_BACK_BW_indicator, E_BACK_BW_indicator, F_FRONT_GREY_indicator, E_FRONT_GREY_indicator, F_FRONT_BW_indicator_coder, F_FRONT_BW_indicator_value, F_BACK_BW_indicator_coder, F_BACK_BW_indicator_value, F_FRONT_GREY_indicator_coder, F_FRONT_GREY_indicator_value, ne_a_FRONT_BW_indicator_a_FRONT_GREY_indicator, ne_a_BACK_BW_indicator_a_FRONT_GREY_indicator, ne_a_BACK_BW_indicator_a_FRONT_BW_indicator, V__VALUES, V_FRONT_BW_indicator_value, V_BACK_BW_indicator_value, V_FRONT_GREY_indicator_value, S_COMPACT_STRINGS, hcs⟩ := FS0
  have f2 := E__VALUES.ext O0.2
  have lt_a__VALUES_1 := f2.lt
  have f3 := E_FRONT_BW.ext O0.2
  have lt_a_FRONT_BW_1 := f3.lt
  have f4 := E_BACK_BW.ext O0.2
  have lt_a_BACK_BW_1 := f4.lt
  have f5 := E_FRONT_GREY.ext O0.2
  have lt_a_FRONT_GREY_1 := f5.lt
  have f6 := E_FRONT_BW_indicator.ext O0.2
  have lt_a_FRONT_BW_indicator_1 := f6.lt
  have f7 := E_BACK_BW_indicator.ext O0.2
  have lt_a_BACK_BW_indicator_1 := f7.lt
  have f8 := E_FRONT_GREY_indicator.ext O0.2
  have lt_a_FRONT_GREY_indicator_1 := f8.lt
  have f9 := V_FRONT_BW_indicator_value.ext O0.2
  have lt_a_FRONT_BW_indicator_value_1 := f9.lt
  have f10 := V_BACK_BW_indicator_value.ext O0.2
  have lt_a_BACK_BW_indicator_value_1 := f10.lt
  have f11 := V_FRONT_GREY_indicator_value.ext O0.2
  have lt_a_FRONT_GREY_indicator_value_1 := f11.lt
  obtain ⟨_, _, ⟨T1, L1, k1, n1⟩, -, X1, ⟨Lc1, hQ1, l1, y1, z1⟩, st1⟩ := Jvm.LawKit.callS X0 hx (y := (⟨"com/example/gridclear/gridclear/image/ImageView$Side", "values", "()[Lcom/example/gridclear/gridclear/image/ImageView$Side;"⟩ : MethodName)) hown (mvT hZ (hw _ (List.mem_of_getElem? (i := 4) rfl))) (mvT hZ (hw _ (List.mem_of_getElem? (i := 5) rfl))) (mvT hZ (hw _ (List.mem_of_getElem? (i := 2) rfl))) (mvT hZ (hw _ (List.mem_of_getElem? (i := 6) rfl))) (by decide) (backOf (W := 0) (rm2 l Z a0 hw [] a__VALUES a_FRONT_BW a_BACK_BW a_FRONT_GREY a_FRONT_BW_indicator a_BACK_BW_indicator a_FRONT_GREY_indicator a_FRONT_BW_indicator_value a_BACK_BW_indicator_value a_FRONT_GREY_indicator_value k__VALUES k_FRONT_BW_indicator_value k_BACK_BW_indicator_value k_FRONT_GREY_indicator_value cs h0 n0 O0 FS) hZ (hw _ (List.mem_of_getElem? (i := 6) rfl)) (hw _ (List.mem_of_getElem? (i := 2) rfl)) (by decide) (by decide)) (g := (mkF m 0 #[.unset, .unset, .unset] [])) rfl (by rw [hml]; rfl) (argsL := []) (rest := []) (lenOf pd_0 rfl) rfl (by show 2 * 0 + _ ≤ _; exact Nat.le_of_eq rfl) (hb hby d1_0) (fun _ _ => ⟨rfl, e0, (by decide : 0 + 1 ≤ _), (by decide : 0 + 3 ≤ _)⟩)
  dsimp only [Pt.U, Pt.locs, Pt.cells, Pt.slots] at X1 l1 y1 z1 st1 hQ1
  subst l1 y1 z1
  obtain ⟨fb1, fk1, rfl, Nq1, Kp1, gb1, sb1, Vb1, Eb1⟩ := hQ1
  have ne_a__VALUES_fb1 : a__VALUES ≠ fb1 := Nat.ne_of_lt (Nat.lt_of_lt_of_le lt_a__VALUES_1 sb1)
  have ne_a_FRONT_BW_fb1 : a_FRONT_BW ≠ fb1 := Nat.ne_of_lt (Nat.lt_of_lt_of_le lt_a_FRONT_BW_1 sb1)
  have ne_a_BACK_BW_fb1 : a_BACK_BW ≠ fb1 := Nat.ne_of_lt (Nat.lt_of_lt_of_le lt_a_BACK_BW_1 sb1)
  have ne_a_FRONT_GREY_fb1 : a_FRONT_GREY ≠ fb1 := Nat.ne_of_lt (Nat.lt_of_lt_of_le lt_a_FRONT_GREY_1 sb1)
  have ne_a_FRONT_BW_indicator_fb1 : a_FRONT_BW_indicator ≠ fb1 := Nat.ne_of_lt (Nat.lt_of_lt_of_le lt_a_FRONT_BW_indicator_1 sb1)
  have ne_a_BACK_BW_indicator_fb1 : a_BACK_BW_indicator ≠ fb1 := Nat.ne_of_lt (Nat.lt_of_lt_of_le lt_a_BACK_BW_indicator_1 sb1)
  have ne_a_FRONT_GREY_indicator_fb1 : a_FRONT_GREY_indicator ≠ fb1 := Nat.ne_of_lt (Nat.lt_of_lt_of_le lt_a_FRONT_GREY_indicator_1 sb1)
  have ne_a_FRONT_BW_indicator_value_fb1 : a_FRONT_BW_indicator_value ≠ fb1 := Nat.ne_of_lt (Nat.lt_of_lt_of_le lt_a_FRONT_BW_indicator_value_1 sb1)
  have ne_a_BACK_BW_indicator_value_fb1 : a_BACK_BW_indicator_value ≠ fb1 := Nat.ne_of_lt (Nat.lt_of_lt_of_le lt_a_BACK_BW_indicator_value_1 sb1)
  have ne_a_FRONT_GREY_indicator_value_fb1 : a_FRONT_GREY_indicator_value ≠ fb1 := Nat.ne_of_lt (Nat.lt_of_lt_of_le lt_a_FRONT_GREY_indicator_value_1 sb1)
  have O_1 := O0.keep Kp1 all0
  have K_1 := (Keep.refl h0 []).trans Kp1 all0
  have N1 := Fr.app N0 Nq1
  refine Goes.step (B := T1.setTop (mkF m 3 #[.unset, .unset, .unset] [(.ref fb1)])) st1 ?_
  refine Goes.step (B := T1.setTop (mkF m 4 #[.val (.ref fb1), .unset, .unset] [])) (fun _ k => XS.astoreN X1.here hx rfl (hb hby d1_3) rfl rfl (l' := #[.val (.ref fb1), .unset, .unset]) rfl k) ?_
  refine Goes.step (B := T1.setTop (mkF m 5 #[.val (.ref fb1), .unset, .unset] [(.ref fb1)])) (fun _ k => XS.aloadN X1.here hx rfl (hb hby d1_4) rfl rfl k) ?_
  obtain ⟨c12, Ar12, -, Sz12, Nn12, -, -⟩ := id Vb1
  have len12 := X1.arraylength hx (by exact Ar12.1) (State.isArrayOf_alike hZ.alike Ar12.2.1) (g := (mkF m 5 #[.val (.ref fb1), .unset, .unset] [(.ref fb1)])) rfl rfl (hb hby d1_5)
  rw [len_of Sz12 Nn12] at len12
  refine Goes.step (B := T1.setTop (mkF m 6 #[.val (.ref fb1), .unset, .unset] [(.int (3 : Int32))])) len12 ?_
  obtain ⟨T13, h13, k13, X13, e13, E13, A13, O13, st13⟩ := newR X1 hx hZ hown (hw _ (List.mem_of_getElem? (i := 22) rfl)) (hw _ (List.mem_of_getElem? (i := 23) rfl)) rfl (g := (mkF m 6 #[.val (.ref fb1), .unset, .unset] [(.int (3 : Int32))])) rfl (hb hby d1_6) rfl (by decide) (cap := 3) (by decide) (by decide) (by decide) (by decide)
  obtain ⟨b13, g13⟩ : ∃ z, z = T1.heap.size := ⟨_, rfl⟩
  rw [← g13] at A13 st13
  have f14 := E__VALUES.ext O_1.2
  have ne_a__VALUES_b13 : a__VALUES ≠ b13 := Nat.ne_of_lt (Nat.lt_of_lt_of_le f14.lt (Nat.le_of_eq g13.symm))
  have f15 := E_FRONT_BW.ext O_1.2
  have ne_a_FRONT_BW_b13 : a_FRONT_BW ≠ b13 := Nat.ne_of_lt (Nat.lt_of_lt_of_le f15.lt (Nat.le_of_eq g13.symm))
  have f16 := E_BACK_BW.ext O_1.2
  have ne_a_BACK_BW_b13 : a_BACK_BW ≠ b13 := Nat.ne_of_lt (Nat.lt_of_lt_of_le f16.lt (Nat.le_of_eq g13.symm))
  have f17 := E_FRONT_GREY.ext O_1.2
  have ne_a_FRONT_GREY_b13 : a_FRONT_GREY ≠ b13 := Nat.ne_of_lt (Nat.lt_of_lt_of_le f17.lt (Nat.le_of_eq g13.symm))
  have f18 := E_FRONT_BW_indicator.ext O_1.2
  have ne_a_FRONT_BW_indicator_b13 : a_FRONT_BW_indicator ≠ b13 := Nat.ne_of_lt (Nat.lt_of_lt_of_le f18.lt (Nat.le_of_eq g13.symm))
  have f19 := E_BACK_BW_indicator.ext O_1.2
  have ne_a_BACK_BW_indicator_b13 : a_BACK_BW_indicator ≠ b13 := Nat.ne_of_lt (Nat.lt_of_lt_of_le f19.lt (Nat.le_of_eq g13.symm))
  have f20 := E_FRONT_GREY_indicator.ext O_1.2
  have ne_a_FRONT_GREY_indicator_b13 : a_FRONT_GREY_indicator ≠ b13 := Nat.ne_of_lt (Nat.lt_of_lt_of_le f20.lt (Nat.le_of_eq g13.symm))
  have f21 := V_FRONT_BW_indicator_value.ext O_1.2
  have ne_a_FRONT_BW_indicator_value_b13 : a_FRONT_BW_indicator_value ≠ b13 := Nat.ne_of_lt (Nat.lt_of_lt_of_le f21.lt (Nat.le_of_eq g13.symm))
  have f22 := V_BACK_BW_indicator_value.ext O_1.2
  have ne_a_BACK_BW_indicator_value_b13 : a_BACK_BW_indicator_value ≠ b13 := Nat.ne_of_lt (Nat.lt_of_lt_of_le f22.lt (Nat.le_of_eq g13.symm))
  have f23 := V_FRONT_GREY_indicator_value.ext O_1.2
  have ne_a_FRONT_GREY_indicator_value_b13 : a_FRONT_GREY_indicator_value ≠ b13 := Nat.ne_of_lt (Nat.lt_of_lt_of_le f23.lt (Nat.le_of_eq g13.symm))
  have ne_fb1_b13 : fb1 ≠ b13 := Nat.ne_of_lt (Nat.lt_of_lt_of_le Vb1.lt (Nat.le_of_eq g13.symm))
  have g_b13 : n0 ≤ b13 := Nat.le_trans (own_z O_1) (Nat.le_of_eq g13.symm)
  have O_13 := O_1.ext E13
  have sz_b13 : h0.size ≤ b13 := Nat.le_trans K_1.1 (Nat.le_of_eq g13.symm)
  have K_13 := K_1.ext E13
  have V_b13 : Arv Z h13 b13 k13 (.object "java/lang/String") (3 : Int32) [.null, .null, .null] .null := (Arv.new A13 (by decide)).pad (pad_rep [] .null 3)
  refine Goes.step (B := T13.setTop (mkF m 9 #[.val (.ref fb1), .unset, .unset] [(.ref b13)])) st13 ?_
  refine Goes.step (B := T13.setTop (mkF m 10 #[.val (.ref fb1), .val (.ref b13), .unset] [])) (fun _ k => XS.astoreN X13.here hx rfl (hb hby d1_9) rfl rfl (l' := #[.val (.ref fb1), .val (.ref b13), .unset]) rfl k) ?_
  refine Goes.step (B := T13.setTop (mkF m 11 #[.val (.ref fb1), .val (.ref b13), .unset] [(.int (0 : Int32))])) (fun _ k => XS.iconst X13.here hx rfl (hb hby d1_10) k) ?_
  refine Goes.step (B := T13.setTop (mkF m 12 #[.val (.ref fb1), .val (.ref b13), .val (.int (0 : Int32))] [])) (fun _ k => XS.istoreN X13.here hx rfl (hb hby d1_11) rfl (l' := #[.val (.ref fb1), .val (.ref b13), .val (.int (0 : Int32))]) rfl k) ?_
  refine Goes.step (B := T13.setTop (mkF m 13 #[.val (.ref fb1), .val (.ref b13), .val (.int (0 : Int32))] [(.int (0 : Int32))])) (fun _ k => XS.iloadN X13.here hx rfl (hb hby d1_12) rfl k) ?_
  refine Goes.step (B := T13.setTop (mkF m 14 #[.val (.ref fb1), .val (.ref b13), .val (.int (0 : Int32))] [(.ref fb1), (.int (0 : Int32))])) (fun _ k => XS.aloadN X13.here hx rfl (hb hby d1_13) rfl rfl k) ?_
  have f24 := (Vb1.ext E13)
  obtain ⟨c25, Ar25, -, Sz25, Nn25, -, -⟩ := id f24
  have len25 := X13.arraylength hx (by rw [e13]; exact Ar25.1) (State.isArrayOf_alike hZ.alike Ar25.2.1) (g := (mkF m 14 #[.val (.ref fb1), .val (.ref b13), .val (.int (0 : Int32))] [(.ref fb1), (.int (0 : Int32))])) rfl rfl (hb hby d1_14)
  rw [len_of Sz25 Nn25] at len25
  refine Goes.step (B := T13.setTop (mkF m 15 #[.val (.ref fb1), .val (.ref b13), .val (.int (0 : Int32))] [(.int (3 : Int32)), (.int (0 : Int32))])) len25 ?_
  refine Goes.step (B := T13.setTop (mkF m 18 #[.val (.ref fb1), .val (.ref b13), .val (.int (0 : Int32))] [])) (fun _ k => XS.icmpNo X13.here hx rfl (hb hby d1_15) rfl (tlt (by decide)).2.1 k) ?_
  refine Goes.step (B := T13.setTop (mkF m 19 #[.val (.ref fb1), .val (.ref b13), .val (.int (0 : Int32))] [(.ref b13)])) (fun _ k => XS.aloadN X13.here hx rfl (hb hby d1_18) rfl rfl k) ?_
  refine Goes.step (B := T13.setTop (mkF m 20 #[.val (.ref fb1), .val (.ref b13), .val (.int (0 : Int32))] [(.int (0 : Int32)), (.ref b13)])) (fun _ k => XS.iloadN X13.here hx rfl (hb hby d1_19) rfl k) ?_
  refine Goes.step (B := T13.setTop (mkF m 21 #[.val (.ref fb1), .val (.ref b13), .val (.int (0 : Int32))] [(.ref fb1), (.int (0 : Int32)), (.ref b13)])) (fun _ k => XS.aloadN X13.here hx rfl (hb hby d1_20) rfl rfl k) ?_
  refine Goes.step (B := T13.setTop (mkF m 22 #[.val (.ref fb1), .val (.ref b13), .val (.int (0 : Int32))] [(.int (0 : Int32)), (.ref fb1), (.int (0 : Int32)), (.ref b13)])) (fun _ k => XS.iloadN X13.here hx rfl (hb hby d1_21) rfl k) ?_
  obtain ⟨c26, Ar26, -, Sz26, Nn26, Hs26, -⟩ := id f24
  have hin26 : ¬ ((0 : Int32) < 0 ∨ c26.slots.size ≤ ((0 : Int32)).toNatClampNeg) := inb_of Sz26 ⟨by decide, by decide⟩
  refine Goes.step (B := T13.setTop (mkF m 23 #[.val (.ref fb1), .val (.ref b13), .val (.int (0 : Int32))] [(.ref a_FRONT_BW), (.int (0 : Int32)), (.ref b13)])) (X13.aaload hx (j := (0 : Int32)) (v := (.ref a_FRONT_BW)) (by rw [e13]; exact Ar26.1) (State.isArrayOf_alike hZ.alike Ar26.2.1) rfl Ar26.2.2 hin26 (Has.at Hs26 hin26 rfl) (g := (mkF m 22 #[.val (.ref fb1), .val (.ref b13), .val (.int (0 : Int32))] [(.int (0 : Int32)), (.ref fb1), (.int (0 : Int32)), (.ref b13)])) rfl rfl (hb hby d1_22)) ?_
  have f27 := F_FRONT_BW_indicator.ext O_13.2
  obtain ⟨T28, X28, e28, st28⟩ := getF X13 hx hZ hown (host := "") (Or.inl (hw _ (List.mem_of_getElem? (i := 24) rfl))) Via.refl e13 f27 (g := (mkF m 23 #[.val (.ref fb1), .val (.ref b13), .val (.int (0 : Int32))] [(.ref a_FRONT_BW), (.int (0 : Int32)), (.ref b13)])) rfl rfl (hb hby d1_23)
  refine Goes.step (B := T28.setTop (mkF m 26 #[.val (.ref fb1), .val (.ref b13), .val (.int (0 : Int32))] [(.ref a_FRONT_BW_indicator), (.int (0 : Int32)), (.ref b13)])) st28 ?_
  obtain ⟨c29, Ar29, q29, Sz29, Nn29, Hs29, Gs29⟩ := id V_b13
  have hin29 : ¬ ((0 : Int32) < 0 ∨ c29.slots.size ≤ ((0 : Int32)).toNatClampNeg) := inb_of Sz29 ⟨by decide, by decide⟩
  have f30 := E_FRONT_BW_indicator.ext O_13.2
  obtain ⟨T29, h29, X29, e29, W29, st29⟩ := stR X28 hx hZ e28 Ar29 (j := (0 : Int32)) hin29 rfl (Sto.ofV Ar29 q29 O13 (Ins.self f30)) (g := (mkF m 26 #[.val (.ref fb1), .val (.ref b13), .val (.int (0 : Int32))] [(.ref a_FRONT_BW_indicator), (.int (0 : Int32)), (.ref b13)])) rfl rfl (hb hby d1_26)
  have V29 : Arv Z h29 b13 k13 (.object "java/lang/String") (3 : Int32) [(.ref a_FRONT_BW_indicator), .null, .null] .null := Arv.set Ar29 q29 Sz29 Nn29 Hs29 Gs29 rfl W29 0 rfl (Nat.le_of_ble_eq_true rfl)
  have N29 := Fr.snoc X29 N1 g_b13
  have O_29 := O_13.wr W29 g_b13
  have K_29 := K_13.wr W29 (Or.inr sz_b13)
  refine Goes.step (B := T29.setTop (mkF m 27 #[.val (.ref fb1), .val (.ref b13), .val (.int (0 : Int32))] [])) st29 ?_
  refine Goes.step (B := T29.setTop (mkF m 30 #[.val (.ref fb1), .val (.ref b13), .val (.int (1 : Int32))] [])) (fun _ k => XS.iinc X29.here hx rfl (hb hby d1_27) rfl (l' := #[.val (.ref fb1), .val (.ref b13), .val (.int (1 : Int32))]) rfl k) ?_
  refine Goes.step (B := T29.setTop (mkF m 12 #[.val (.ref fb1), .val (.ref b13), .val (.int (1 : Int32))] [])) (fun _ k => XS.goto X29.here hx rfl (pc0 := 30) (pc' := 12) rfl (hb hby d1_30) (by decide) (by decide) k) ?_
  refine Goes.step (B := T29.setTop (mkF m 13 #[.val (.ref fb1), .val (.ref b13), .val (.int (1 : Int32))] [(.int (1 : Int32))])) (fun _ k => XS.iloadN X29.here hx rfl (hb hby d1_12) rfl k) ?_
  refine Goes.step (B := T29.setTop (mkF m 14 #[.val (.ref fb1), .val (.ref b13), .val (.int (1 : Int32))] [(.ref fb1), (.int (1 : Int32))])) (fun _ k => XS.aloadN X29.here hx rfl (hb hby d1_13) rfl rfl k) ?_
  have f31 := (f24.other W29 ne_fb1_b13)
  obtain ⟨c32, Ar32, -, Sz32, Nn32, -, -⟩ := id f31
  have len32 := X29.arraylength hx (by rw [e29]; exact Ar32.1) (State.isArrayOf_alike hZ.alike Ar32.2.1) (g := (mkF m 14 #[.val (.ref fb1), .val (.ref b13), .val (.int (1 : Int32))] [(.ref fb1), (.int (1 : Int32))])) rfl rfl (hb hby d1_14)
  rw [len_of Sz32 Nn32] at len32
  refine Goes.step (B := T29.setTop (mkF m 15 #[.val (.ref fb1), .val (.ref b13), .val (.int (1 : Int32))] [(.int (3 : Int32)), (.int (1 : Int32))])) len32 ?_
  refine Goes.step (B := T29.setTop (mkF m 18 #[.val (.ref fb1), .val (.ref b13), .val (.int (1 : Int32))] [])) (fun _ k => XS.icmpNo X29.here hx rfl (hb hby d1_15) rfl (tlt (by decide)).2.1 k) ?_
  refine Goes.step (B := T29.setTop (mkF m 19 #[.val (.ref fb1), .val (.ref b13), .val (.int (1 : Int32))] [(.ref b13)])) (fun _ k => XS.aloadN X29.here hx rfl (hb hby d1_18) rfl rfl k) ?_
  refine Goes.step (B := T29.setTop (mkF m 20 #[.val (.ref fb1), .val (.ref b13), .val (.int (1 : Int32))] [(.int (1 : Int32)), (.ref b13)])) (fun _ k => XS.iloadN X29.here hx rfl (hb hby d1_19) rfl k) ?_
  refine Goes.step (B := T29.setTop (mkF m 21 #[.val (.ref fb1), .val (.ref b13), .val (.int (1 : Int32))] [(.ref fb1), (.int (1 : Int32)), (.ref b13)])) (fun _ k => XS.aloadN X29.here hx rfl (hb hby d1_20) rfl rfl k) ?_
  refine Goes.step (B := T29.setTop (mkF m 22 #[.val (.ref fb1), .val (.ref b13), .val (.int (1 : Int32))] [(.int (1 : Int32)), (.ref fb1), (.int (1 : Int32)), (.ref b13)])) (fun _ k => XS.iloadN X29.here hx rfl (hb hby d1_21) rfl k) ?_
  obtain ⟨c33, Ar33, -, Sz33, Nn33, Hs33, -⟩ := id f31
  have hin33 : ¬ ((1 : Int32) < 0 ∨ c33.slots.size ≤ ((1 : Int32)).toNatClampNeg) := inb_of Sz33 ⟨by decide, by decide⟩
  refine Goes.step (B := T29.setTop (mkF m 23 #[.val (.ref fb1), .val (.ref b13), .val (.int (1 : Int32))] [(.ref a_BACK_BW), (.int (1 : Int32)), (.ref b13)])) (X29.aaload hx (j := (1 : Int32)) (v := (.ref a_BACK_BW)) (by rw [e29]; exact Ar33.1) (State.isArrayOf_alike hZ.alike Ar33.2.1) rfl Ar33.2.2 hin33 (Has.at Hs33 hin33 rfl) (g := (mkF m 22 #[.val (.ref fb1), .val (.ref b13), .val (.int (1 : Int32))] [(.int (1 : Int32)), (.ref fb1), (.int (1 : Int32)), (.ref b13)])) rfl rfl (hb hby d1_22)) ?_
  have f34 := F_BACK_BW_indicator.ext O_29.2
  obtain ⟨T35, X35, e35, st35⟩ := getF X29 hx hZ hown (host := "") (Or.inl (hw _ (List.mem_of_getElem? (i := 24) rfl))) Via.refl e29 f34 (g := (mkF m 23 #[.val (.ref fb1), .val (.ref b13), .val (.int (1 : Int32))] [(.ref a_BACK_BW), (.int (1 : Int32)), (.ref b13)])) rfl rfl (hb hby d1_23)
  refine Goes.step (B := T35.setTop (mkF m 26 #[.val (.ref fb1), .val (.ref b13), .val (.int (1 : Int32))] [(.ref a_BACK_BW_indicator), (.int (1 : Int32)), (.ref b13)])) st35 ?_
  obtain ⟨c36, Ar36, q36, Sz36, Nn36, Hs36, Gs36⟩ := id V29
  have hin36 : ¬ ((1 : Int32) < 0 ∨ c36.slots.size ≤ ((1 : Int32)).toNatClampNeg) := inb_of Sz36 ⟨by decide, by decide⟩
  have f37 := E_BACK_BW_indicator.ext O_29.2
  obtain ⟨T36, h36, X36, e36, W36, st36⟩ := stR X35 hx hZ e35 Ar36 (j := (1 : Int32)) hin36 rfl (Sto.ofV Ar36 q36 O13 (Ins.self f37)) (g := (mkF m 26 #[.val (.ref fb1), .val (.ref b13), .val (.int (1 : Int32))] [(.ref a_BACK_BW_indicator), (.int (1 : Int32)), (.ref b13)])) rfl rfl (hb hby d1_26)
  have V36 : Arv Z h36 b13 k13 (.object "java/lang/String") (3 : Int32) [(.ref a_FRONT_BW_indicator), (.ref a_BACK_BW_indicator), .null] .null := Arv.set Ar36 q36 Sz36 Nn36 Hs36 Gs36 rfl W36 1 rfl (Nat.le_of_ble_eq_true rfl)
  have N36 := Fr.snoc X36 N29 g_b13
  have O_36 := O_29.wr W36 g_b13
  have K_36 := K_29.wr W36 (Or.inr sz_b13)
  refine Goes.step (B := T36.setTop (mkF m 27 #[.val (.ref fb1), .val (.ref b13), .val (.int (1 : Int32))] [])) st36 ?_
  refine Goes.step (B := T36.setTop (mkF m 30 #[.val (.ref fb1), .val (.ref b13), .val (.int (2 : Int32))] [])) (fun _ k => XS.iinc X36.here hx rfl (hb hby d1_27) rfl (l' := #[.val (.ref fb1), .val (.ref b13), .val (.int (2 : Int32))]) rfl k) ?_
  refine Goes.step (B := T36.setTop (mkF m 12 #[.val (.ref fb1), .val (.ref b13), .val (.int (2 : Int32))] [])) (fun _ k => XS.goto X36.here hx rfl (pc0 := 30) (pc' := 12) rfl (hb hby d1_30) (by decide) (by decide) k) ?_
  refine Goes.step (B := T36.setTop (mkF m 13 #[.val (.ref fb1), .val (.ref b13), .val (.int (2 : Int32))] [(.int (2 : Int32))])) (fun _ k => XS.iloadN X36.here hx rfl (hb hby d1_12) rfl k) ?_
  refine Goes.step (B := T36.setTop (mkF m 14 #[.val (.ref fb1), .val (.ref b13), .val (.int (2 : Int32))] [(.ref fb1), (.int (2 : Int32))])) (fun _ k => XS.aloadN X36.here hx rfl (hb hby d1_13) rfl rfl k) ?_
  have f38 := (f31.other W36 ne_fb1_b13)
  obtain ⟨c39, Ar39, -, Sz39, Nn39, -, -⟩ := id f38
  have len39 := X36.arraylength hx (by rw [e36]; exact Ar39.1) (State.isArrayOf_alike hZ.alike Ar39.2.1) (g := (mkF m 14 #[.val (.ref fb1), .val (.ref b13), .val (.int (2 : Int32))] [(.ref fb1), (.int (2 : Int32))])) rfl rfl (hb hby d1_14)
  rw [len_of Sz39 Nn39] at len39
  refine Goes.step (B := T36.setTop (mkF m 15 #[.val (.ref fb1), .val (.ref b13), .val (.int (2 : Int32))] [(.int (3 : Int32)), (.int (2 : Int32))])) len39 ?_
  refine Goes.step (B := T36.setTop (mkF m 18 #[.val (.ref fb1), .val (.ref b13), .val (.int (2 : Int32))] [])) (fun _ k => XS.icmpNo X36.here hx rfl (hb hby d1_15) rfl (tlt (by decide)).2.1 k) ?_
  refine Goes.step (B := T36.setTop (mkF m 19 #[.val (.ref fb1), .val (.ref b13), .val (.int (2 : Int32))] [(.ref b13)])) (fun _ k => XS.aloadN X36.here hx rfl (hb hby d1_18) rfl rfl k) ?_
  refine Goes.step (B := T36.setTop (mkF m 20 #[.val (.ref fb1), .val (.ref b13), .val (.int (2 : Int32))] [(.int (2 : Int32)), (.ref b13)])) (fun _ k => XS.iloadN X36.here hx rfl (hb hby d1_19) rfl k) ?_
  refine Goes.step (B := T36.setTop (mkF m 21 #[.val (.ref fb1), .val (.ref b13), .val (.int (2 : Int32))] [(.ref fb1), (.int (2 : Int32)), (.ref b13)])) (fun _ k => XS.aloadN X36.here hx rfl (hb hby d1_20) rfl rfl k) ?_
  refine Goes.step (B := T36.setTop (mkF m 22 #[.val (.ref fb1), .val (.ref b13), .val (.int (2 : Int32))] [(.int (2 : Int32)), (.ref fb1), (.int (2 : Int32)), (.ref b13)])) (fun _ k => XS.iloadN X36.here hx rfl (hb hby d1_21) rfl k) ?_
  obtain ⟨c40, Ar40, -, Sz40, Nn40, Hs40, -⟩ := id f38
  have hin40 : ¬ ((2 : Int32) < 0 ∨ c40.slots.size ≤ ((2 : Int32)).toNatClampNeg) := inb_of Sz40 ⟨by decide, by decide⟩
  refine Goes.step (B := T36.setTop (mkF m 23 #[.val (.ref fb1), .val (.ref b13), .val (.int (2 : Int32))] [(.ref a_FRONT_GREY), (.int (2 : Int32)), (.ref b13)])) (X36.aaload hx (j := (2 : Int32)) (v := (.ref a_FRONT_GREY)) (by rw [e36]; exact Ar40.1) (State.isArrayOf_alike hZ.alike Ar40.2.1) rfl Ar40.2.2 hin40 (Has.at Hs40 hin40 rfl) (g := (mkF m 22 #[.val (.ref fb1), .val (.ref b13), .val (.int (2 : Int32))] [(.int (2 : Int32)), (.ref fb1), (.int (2 : Int32)), (.ref b13)])) rfl rfl (hb hby d1_22)) ?_
  have f41 := F_FRONT_GREY_indicator.ext O_36.2
  obtain ⟨T42, X42, e42, st42⟩ := getF X36 hx hZ hown (host := "") (Or.inl (hw _ (List.mem_of_getElem? (i := 24) rfl))) Via.refl e36 f41 (g := (mkF m 23 #[.val (.ref fb1), .val (.ref b13), .val (.int (2 : Int32))] [(.ref a_FRONT_GREY), (.int (2 : Int32)), (.ref b13)])) rfl rfl (hb hby d1_23)
  refine Goes.step (B := T42.setTop (mkF m 26 #[.val (.ref fb1), .val (.ref b13), .val (.int (2 : Int32))] [(.ref a_FRONT_GREY_indicator), (.int (2 : Int32)), (.ref b13)])) st42 ?_
  obtain ⟨c43, Ar43, q43, Sz43, Nn43, Hs43, Gs43⟩ := id V36
  have hin43 : ¬ ((2 : Int32) < 0 ∨ c43.slots.size ≤ ((2 : Int32)).toNatClampNeg) := inb_of Sz43 ⟨by decide, by decide⟩
  have f44 := E_FRONT_GREY_indicator.ext O_36.2
  obtain ⟨T43, h43, X43, e43, W43, st43⟩ := stR X42 hx hZ e42 Ar43 (j := (2 : Int32)) hin43 rfl (Sto.ofV Ar43 q43 O13 (Ins.self f44)) (g := (mkF m 26 #[.val (.ref fb1), .val (.ref b13), .val (.int (2 : Int32))] [(.ref a_FRONT_GREY_indicator), (.int (2 : Int32)), (.ref b13)])) rfl rfl (hb hby d1_26)
  have V43 : Arv Z h43 b13 k13 (.object "java/lang/String") (3 : Int32) [(.ref a_FRONT_BW_indicator), (.ref a_BACK_BW_indicator), (.ref a_FRONT_GREY_indicator)] .null := Arv.set Ar43 q43 Sz43 Nn43 Hs43 Gs43 rfl W43 2 rfl (Nat.le_of_ble_eq_true rfl)
  have N43 := Fr.snoc X43 N36 g_b13
  have O_43 := O_36.wr W43 g_b13
  have K_43 := K_36.wr W43 (Or.inr sz_b13)
  refine Goes.step (B := T43.setTop (mkF m 27 #[.val (.ref fb1), .val (.ref b13), .val (.int (2 : Int32))] [])) st43 ?_
  refine Goes.step (B := T43.setTop (mkF m 30 #[.val (.ref fb1), .val (.ref b13), .val (.int (3 : Int32))] [])) (fun _ k => XS.iinc X43.here hx rfl (hb hby d1_27) rfl (l' := #[.val (.ref fb1), .val (.ref b13), .val (.int (3 : Int32))]) rfl k) ?_
  refine Goes.step (B := T43.setTop (mkF m 12 #[.val (.ref fb1), .val (.ref b13), .val (.int (3 : Int32))] [])) (fun _ k => XS.goto X43.here hx rfl (pc0 := 30) (pc' := 12) rfl (hb hby d1_30) (by decide) (by decide) k) ?_
  refine Goes.step (B := T43.setTop (mkF m 13 #[.val (.ref fb1), .val (.ref b13), .val (.int (3 : Int32))] [(.int (3 : Int32))])) (fun _ k => XS.iloadN X43.here hx rfl (hb hby d1_12) rfl k) ?_
  refine Goes.step (B := T43.setTop (mkF m 14 #[.val (.ref fb1), .val (.ref b13), .val (.int (3 : Int32))] [(.ref fb1), (.int (3 : Int32))])) (fun _ k => XS.aloadN X43.here hx rfl (hb hby d1_13) rfl rfl k) ?_
  have f45 := (f38.other W43 ne_fb1_b13)
  obtain ⟨c46, Ar46, -, Sz46, Nn46, -, -⟩ := id f45
  have len46 := X43.arraylength hx (by rw [e43]; exact Ar46.1) (State.isArrayOf_alike hZ.alike Ar46.2.1) (g := (mkF m 14 #[.val (.ref fb1), .val (.ref b13), .val (.int (3 : Int32))] [(.ref fb1), (.int (3 : Int32))])) rfl rfl (hb hby d1_14)
  rw [len_of Sz46 Nn46] at len46
  refine Goes.step (B := T43.setTop (mkF m 15 #[.val (.ref fb1), .val (.ref b13), .val (.int (3 : Int32))] [(.int (3 : Int32)), (.int (3 : Int32))])) len46 ?_
  refine Goes.step (B := T43.setTop (mkF m 33 #[.val (.ref fb1), .val (.ref b13), .val (.int (3 : Int32))] [])) (fun _ k => XS.icmpYes X43.here hx rfl (pc0 := 15) (pc' := 33) rfl (hb hby d1_15) rfl (flt (by decide)).2.1 (by decide) (by decide) k) ?_
  refine Goes.step (B := T43.setTop (mkF m 34 #[.val (.ref fb1), .val (.ref b13), .val (.int (3 : Int32))] [(.ref b13)])) (fun _ k => XS.aloadN X43.here hx rfl (hb hby d1_33) rfl rfl k) ?_
  exact Goes.retA X43 hx e43 Bd.returns rfl rfl hlk (hb hby d1_34) (by decide) (by decide) (⟨b13, k13, rfl, N43, K_43, g_b13, sz_b13, V43, O13⟩)
theorem d4_0 : decode jdk_42_method_66_code 0 = .ok (.aload_n 0, 1) := by decide +kernel
theorem d4_1 : decode jdk_42_method_66_code 1 = .ok (.aload_n 1, 1) := by decide +kernel
theorem d4_2 : decode jdk_42_method_66_code 2 = .ok (.if_acmp .ne 5, 3) := by decide +kernel
theorem d4_5 : decode jdk_42_method_66_code 5 = .ok (.iconst 1, 1) := by decide +kernel
theorem d4_6 : decode jdk_42_method_66_code 6 = .ok (.ireturn, 1) := by decide +kernel
theorem pn_String : plainName "java/lang/String" = true := by first | (simp [plainName, overriddenIn]; done) | decide +kernel
theorem ef_rmES (m : MethodId) (x0 : Addr) (x1 : Addr) : entryFrame m #[(.ref x0), (.ref x1)] 3 = mkF m 0 #[.val (.ref x0), .val (.ref x1), .unset] [] := by first | (simp [entryFrame, mkF, argsToLocals, Value.category]; done) | rfl
def QES (Z : State) (a1 : Addr) (h0 : Heap) (n0 : Nat) (v : Option Value) (h : Heap) (L : List Loc) : Prop := v = some (.int (1 : Int32)) ∧ Fr n0 L ∧ h = h0
set_option maxRecDepth 65536 in
set_option maxHeartbeats 40000000 in
theorem rmES (l : Launch) (Z : State) (a0 : Array Value) (hw : ∀ d ∈ tables_1, d.before a0 Z = true) (ws : List Jvm.Cond) (a1 : Addr) (h0 : Heap) (n0 : Nat) (O0 : Old Z n0 h0) :
    MetFree l (⟨"java/lang/String", "equals", "(Ljava/lang/Object;)Z"⟩ : MethodName) (head1 (Jvm.Cond.code (⟨"java/lang/String", "equals", "(Ljava/lang/Object;)Z"⟩ : MethodName) jdk_42_method_66_code 3 (some .boolean) :: ws) ({ frames := 0, cells := 0, slots := 0, locals := 0 } : Room)) (fun a U => a = #[(.ref a1), (.ref a1)] ∧ Z.Warmed39 U.vm ∧ U.heap = h0) (fun _ _ _ _ _ => True) (fun _ U o U' => ∃ v L, o = .returned v ∧ QES Z a1 h0 n0 v U'.heap L ∧ FrameEnd U o U' L ({ frames := 0, cells := 0, slots := 0, locals := 0 } : Room).cells ({ frames := 0, cells := 0, slots := 0, locals := 0 } : Room).slots) := by
  refine MetFree.of_bodySF (plainFor_of_name pn_String) hisR ?_
  intro p e s m args below meth c s₁ Bd hml0 hP hK
  obtain ⟨rfl, hZ, hh⟩ := hP
  have hx := Bd.exec
  have hby := Bd.bytes
  have hlk : meth.locks = false := BodyLoose.notSynchronized Bd
  have hml : c.maxLocals = 3 := hml0
  have hown : s.vm.findClass "java/lang/String" = some m.cls := findClass_of_methodNamed Bd.named
  have hnm := (name_of_methodNamed Bd.named Bd.method).1
  have X0 : Stand p l e ({ frames := 0, cells := 0, slots := 0, locals := 0 } : Room) s m #[(.ref a1), (.ref a1)] below meth c s₁ [] 0 0 := Stand.of_body Bd
  have e0 : s₁.heap = h0 := by rw [← hh, Bd.state]; rfl
  have N0 := Fr.nil n0
  show Goes p e below s (QES Z a1 h0 n0) ({ frames := 0, cells := 0, slots := 0, locals := 0 } : Room).cells ({ frames := 0, cells := 0, slots := 0, locals := 0 } : Room).slots (s₁.setTop (entryFrame m #[(.ref a1), (.ref a1)] 3))
  refine Goes.enter (g' := (mkF m 0 #[.val (.ref a1), .val (.ref a1), .unset] [])) (ef_rmES m a1 a1) ?_
  refine Goes.step (B := s₁.setTop (mkF m 1 #[.val (.ref a1), .val (.ref a1), .unset] [(.ref a1)])) (fun _ k => XS.aloadN X0.here hx rfl (hb hby d4_0) rfl rfl k) ?_
  refine Goes.step (B := s₁.setTop (mkF m 2 #[.val (.ref a1), .val (.ref a1), .unset] [(.ref a1), (.ref a1)])) (fun _ k => XS.aloadN X0.here hx rfl (hb hby d4_1) rfl rfl k) ?_
  refine Goes.step (B := s₁.setTop (mkF m 5 #[.val (.ref a1), .val (.ref a1), .unset] [])) (fun _ k => Jvm.RoadKit.acmp (g := (mkF m 2 #[.val (.ref a1), .val (.ref a1), .unset] [(.ref a1), (.ref a1)])) X0 hx rfl rfl rfl (pc0 := 2) (pc' := 5) (same := true) rfl (hb hby d4_2) rfl (decide_eq_true rfl) (by decide) (by decide) k) ?_
  refine Goes.step (B := s₁.setTop (mkF m 6 #[.val (.ref a1), .val (.ref a1), .unset] [(.int (1 : Int32))])) (fun _ k => XS.iconst X0.here hx rfl (hb hby d4_5) k) ?_
  exact Goes.retN X0 hx e0 (t := .boolean) Bd.returns (by simp) hlk (hb hby d4_6) (by decide) (by decide) (⟨rfl, N0, rfl⟩)
theorem d5_0 : decode jdk_43_method_13_code 0 = .ok (.aload_n 0, 1) := by decide +kernel
theorem d5_1 : decode jdk_43_method_13_code 1 = .ok (.arraylength, 1) := by decide +kernel
theorem d5_2 : decode jdk_43_method_13_code 2 = .ok (.aload_n 1, 1) := by decide +kernel
theorem d5_3 : decode jdk_43_method_13_code 3 = .ok (.arraylength, 1) := by decide +kernel
theorem d5_4 : decode jdk_43_method_13_code 4 = .ok (.if_icmp .ne 30, 3) := by decide +kernel
theorem d5_7 : decode jdk_43_method_13_code 7 = .ok (.iconst 0, 1) := by decide +kernel
theorem d5_8 : decode jdk_43_method_13_code 8 = .ok (.istore_n 2, 1) := by decide +kernel
theorem d5_9 : decode jdk_43_method_13_code 9 = .ok (.iload_n 2, 1) := by decide +kernel
theorem d5_10 : decode jdk_43_method_13_code 10 = .ok (.aload_n 0, 1) := by decide +kernel
theorem d5_11 : decode jdk_43_method_13_code 11 = .ok (.arraylength, 1) := by decide +kernel
theorem d5_12 : decode jdk_43_method_13_code 12 = .ok (.if_icmp .ge 20, 3) := by decide +kernel
theorem d5_15 : decode jdk_43_method_13_code 15 = .ok (.aload_n 0, 1) := by decide +kernel
theorem d5_16 : decode jdk_43_method_13_code 16 = .ok (.iload_n 2, 1) := by decide +kernel
theorem d5_17 : decode jdk_43_method_13_code 17 = .ok (.baload, 1) := by decide +kernel
theorem d5_18 : decode jdk_43_method_13_code 18 = .ok (.aload_n 1, 1) := by decide +kernel
theorem d5_19 : decode jdk_43_method_13_code 19 = .ok (.iload_n 2, 1) := by decide +kernel
theorem d5_20 : decode jdk_43_method_13_code 20 = .ok (.baload, 1) := by decide +kernel
theorem d5_21 : decode jdk_43_method_13_code 21 = .ok (.if_icmp .eq 5, 3) := by decide +kernel
theorem d5_26 : decode jdk_43_method_13_code 26 = .ok (.iinc 2 1, 3) := by decide +kernel
theorem d5_29 : decode jdk_43_method_13_code 29 = .ok (.goto (-20), 3) := by decide +kernel
theorem d5_32 : decode jdk_43_method_13_code 32 = .ok (.iconst 1, 1) := by decide +kernel
theorem d5_33 : decode jdk_43_method_13_code 33 = .ok (.ireturn, 1) := by decide +kernel
theorem pn_StringLatin1 : plainName "java/lang/StringLatin1" = true := by first | (simp [plainName, overriddenIn]; done) | decide +kernel
theorem ef_rmLq0 (m : MethodId) (x0 : Addr) (x1 : Addr) : entryFrame m #[(.ref x0), (.ref x1)] 3 = mkF m 0 #[.val (.ref x0), .val (.ref x1), .unset] [] := by first | (simp [entryFrame, mkF, argsToLocals, Value.category]; done) | rfl
def QLq0 (Z : State) (b1 : Addr) (b2 : Addr) (k1 : ClassId) (k2 : ClassId) (h0 : Heap) (n0 : Nat) (v : Option Value) (h : Heap) (L : List Loc) : Prop := v = some (.int (1 : Int32)) ∧ Fr n0 L ∧ h = h0
set_option maxRecDepth 65536 in
set_option maxHeartbeats 40000000 in
theorem rmLq0 (l : Launch) (Z : State) (a0 : Array Value) (hw : ∀ d ∈ tables_1, d.before a0 Z = true) (ws : List Jvm.Cond) (b1 : Addr) (b2 : Addr) (k1 : ClassId) (k2 : ClassId) (h0 : Heap) (n0 : Nat) (O0 : Old Z n0 h0) (V1 : Arv Z h0 b1 k1 .byte (8 : Int32) [.int (70 : Int32), .int (114 : Int32), .int (111 : Int32), .int (110 : Int32), .int (116 : Int32), .int (32 : Int32), .int (66 : Int32), .int (87 : Int32)] (.int (0 : Int32))) (V2 : Arv Z h0 b2 k2 .byte (8 : Int32) [.int (70 : Int32), .int (114 : Int32), .int (111 : Int32), .int (110 : Int32), .int (116 : Int32), .int (32 : Int32), .int (66 : Int32), .int (87 : Int32)] (.int (0 : Int32))) :
    MetFree l (⟨"java/lang/StringLatin1", "equals", "([B[B)Z"⟩ : MethodName) (head1 (Jvm.Cond.code (⟨"java/lang/StringLatin1", "equals", "([B[B)Z"⟩ : MethodName) jdk_43_method_13_code 3 (some .boolean) :: ws) ({ frames := 0, cells := 0, slots := 0, locals := 0 } : Room)) (fun a U => a = #[(.ref b1), (.ref b2)] ∧ Z.Warmed39 U.vm ∧ U.heap = h0) (fun _ _ _ _ _ => True) (fun _ U o U' => ∃ v L, o = .returned v ∧ QLq0 Z b1 b2 k1 k2 h0 n0 v U'.heap L ∧ FrameEnd U o U' L ({ frames := 0, cells := 0, slots := 0, locals := 0 } : Room).cells ({ frames := 0, cells := 0, slots := 0, locals := 0 } : Room).slots) := by
  refine MetFree.of_bodySF (plainFor_of_name pn_StringLatin1) hisR ?_
  intro p e s m args below meth c s₁ Bd hml0 hP hK
  obtain ⟨rfl, hZ, hh⟩ := hP
  have hx := Bd.exec
  have hby := Bd.bytes
  have hlk : meth.locks = false := BodyLoose.notSynchronized Bd
  have hml : c.maxLocals = 3 := hml0
  have hown : s.vm.findClass "java/lang/StringLatin1" = some m.cls := findClass_of_methodNamed Bd.named
  have hnm := (name_of_methodNamed Bd.named Bd.method).1
  have X0 : Stand p l e ({ frames := 0, cells := 0, slots := 0, locals := 0 } : Room) s m #[(.ref b1), (.ref b2)] below meth c s₁ [] 0 0 := Stand.of_body Bd
  have e0 : s₁.heap = h0 := by rw [← hh, Bd.state]; rfl
  have N0 := Fr.nil n0
  show Goes p e below s (QLq0 Z b1 b2 k1 k2 h0 n0) ({ frames := 0, cells := 0, slots := 0, locals := 0 } : Room).cells ({ frames := 0, cells := 0, slots := 0, locals := 0 } : Room).slots (s₁.setTop (entryFrame m #[(.ref b1), (.ref b2)] 3))
  refine Goes.enter (g' := (mkF m 0 #[.val (.ref b1), .val (.ref b2), .unset] [])) (ef_rmLq0 m b1 b2) ?_
  refine Goes.step (B := s₁.setTop (mkF m 1 #[.val (.ref b1), .val (.ref b2), .unset] [(.ref b1)])) (fun _ k => XS.aloadN X0.here hx rfl (hb hby d5_0) rfl rfl k) ?_
  obtain ⟨c1, Ar1, -, Sz1, Nn1, -, -⟩ := id V1
  have len1 := X0.arraylength hx (by rw [e0]; exact Ar1.1) (State.isArrayOf_alike hZ.alike Ar1.2.1) (g := (mkF m 1 #[.val (.ref b1), .val (.ref b2), .unset] [(.ref b1)])) rfl rfl (hb hby d5_1)
  rw [len_of Sz1 Nn1] at len1
  refine Goes.step (B := s₁.setTop (mkF m 2 #[.val (.ref b1), .val (.ref b2), .unset] [(.int (8 : Int32))])) len1 ?_
  refine Goes.step (B := s₁.setTop (mkF m 3 #[.val (.ref b1), .val (.ref b2), .unset] [(.ref b2), (.int (8 : Int32))])) (fun _ k => XS.aloadN X0.here hx rfl (hb hby d5_2) rfl rfl k) ?_
  obtain ⟨c2, Ar2, -, Sz2, Nn2, -, -⟩ := id V2
  have len2 := X0.arraylength hx (by rw [e0]; exact Ar2.1) (State.isArrayOf_alike hZ.alike Ar2.2.1) (g := (mkF m 3 #[.val (.ref b1), .val (.ref b2), .unset] [(.ref b2), (.int (8 : Int32))])) rfl rfl (hb hby d5_3)
  rw [len_of Sz2 Nn2] at len2
  refine Goes.step (B := s₁.setTop (mkF m 4 #[.val (.ref b1), .val (.ref b2), .unset] [(.int (8 : Int32)), (.int (8 : Int32))])) len2 ?_
  refine Goes.step (B := s₁.setTop (mkF m 7 #[.val (.ref b1), .val (.ref b2), .unset] [])) (fun _ k => XS.icmpNo X0.here hx rfl (hb hby d5_4) rfl (teq (by decide)).2 k) ?_
  refine Goes.step (B := s₁.setTop (mkF m 8 #[.val (.ref b1), .val (.ref b2), .unset] [(.int (0 : Int32))])) (fun _ k => XS.iconst X0.here hx rfl (hb hby d5_7) k) ?_
  refine Goes.step (B := s₁.setTop (mkF m 9 #[.val (.ref b1), .val (.ref b2), .val (.int (0 : Int32))] [])) (fun _ k => XS.istoreN X0.here hx rfl (hb hby d5_8) rfl (l' := #[.val (.ref b1), .val (.ref b2), .val (.int (0 : Int32))]) rfl k) ?_
  refine Goes.step (B := s₁.setTop (mkF m 10 #[.val (.ref b1), .val (.ref b2), .val (.int (0 : Int32))] [(.int (0 : Int32))])) (fun _ k => XS.iloadN X0.here hx rfl (hb hby d5_9) rfl k) ?_
  refine Goes.step (B := s₁.setTop (mkF m 11 #[.val (.ref b1), .val (.ref b2), .val (.int (0 : Int32))] [(.ref b1), (.int (0 : Int32))])) (fun _ k => XS.aloadN X0.here hx rfl (hb hby d5_10) rfl rfl k) ?_
  obtain ⟨c3, Ar3, -, Sz3, Nn3, -, -⟩ := id V1
  have len3 := X0.arraylength hx (by rw [e0]; exact Ar3.1) (State.isArrayOf_alike hZ.alike Ar3.2.1) (g := (mkF m 11 #[.val (.ref b1), .val (.ref b2), .val (.int (0 : Int32))] [(.ref b1), (.int (0 : Int32))])) rfl rfl (hb hby d5_11)
  rw [len_of Sz3 Nn3] at len3
  refine Goes.step (B := s₁.setTop (mkF m 12 #[.val (.ref b1), .val (.ref b2), .val (.int (0 : Int32))] [(.int (8 : Int32)), (.int (0 : Int32))])) len3 ?_
  refine Goes.step (B := s₁.setTop (mkF m 15 #[.val (.ref b1), .val (.ref b2), .val (.int (0 : Int32))] [])) (fun _ k => XS.icmpNo X0.here hx rfl (hb hby d5_12) rfl (tlt (by decide)).2.1 k) ?_
  refine Goes.step (B := s₁.setTop (mkF m 16 #[.val (.ref b1), .val (.ref b2), .val (.int (0 : Int32))] [(.ref b1)])) (fun _ k => XS.aloadN X0.here hx rfl (hb hby d5_15) rfl rfl k) ?_
  refine Goes.step (B := s₁.setTop (mkF m 17 #[.val (.ref b1), .val (.ref b2), .val (.int (0 : Int32))] [(.int (0 : Int32)), (.ref b1)])) (fun _ k => XS.iloadN X0.here hx rfl (hb hby d5_16) rfl k) ?_
  obtain ⟨c4, Ar4, -, Sz4, Nn4, Hs4, -⟩ := id V1
  have hin4 : ¬ ((0 : Int32) < 0 ∨ c4.slots.size ≤ ((0 : Int32)).toNatClampNeg) := inb_of Sz4 ⟨by decide, by decide⟩
  refine Goes.step (B := s₁.setTop (mkF m 18 #[.val (.ref b1), .val (.ref b2), .val (.int (0 : Int32))] [(.int (70 : Int32))])) (X0.baloadBytes hx (j := (0 : Int32)) (v := (.int (70 : Int32))) (by rw [e0]; exact Ar4.1) (State.isArrayOf_alike hZ.alike Ar4.2.1) Ar4.2.2 hin4 (Has.at Hs4 hin4 rfl) (g := (mkF m 17 #[.val (.ref b1), .val (.ref b2), .val (.int (0 : Int32))] [(.int (0 : Int32)), (.ref b1)])) rfl rfl (hb hby d5_17)) ?_
  refine Goes.step (B := s₁.setTop (mkF m 19 #[.val (.ref b1), .val (.ref b2), .val (.int (0 : Int32))] [(.ref b2), (.int (70 : Int32))])) (fun _ k => XS.aloadN X0.here hx rfl (hb hby d5_18) rfl rfl k) ?_
  refine Goes.step (B := s₁.setTop (mkF m 20 #[.val (.ref b1), .val (.ref b2), .val (.int (0 : Int32))] [(.int (0 : Int32)), (.ref b2), (.int (70 : Int32))])) (fun _ k => XS.iloadN X0.here hx rfl (hb hby d5_19) rfl k) ?_
  obtain ⟨c5, Ar5, -, Sz5, Nn5, Hs5, -⟩ := id V2
  have hin5 : ¬ ((0 : Int32) < 0 ∨ c5.slots.size ≤ ((0 : Int32)).toNatClampNeg) := inb_of Sz5 ⟨by decide, by decide⟩
  refine Goes.step (B := s₁.setTop (mkF m 21 #[.val (.ref b1), .val (.ref b2), .val (.int (0 : Int32))] [(.int (70 : Int32)), (.int (70 : Int32))])) (X0.baloadBytes hx (j := (0 : Int32)) (v := (.int (70 : Int32))) (by rw [e0]; exact Ar5.1) (State.isArrayOf_alike hZ.alike Ar5.2.1) Ar5.2.2 hin5 (Has.at Hs5 hin5 rfl) (g := (mkF m 20 #[.val (.ref b1), .val (.ref b2), .val (.int (0 : Int32))] [(.int (0 : Int32)), (.ref b2), (.int (70 : Int32))])) rfl rfl (hb hby d5_20)) ?_
  refine Goes.step (B := s₁.setTop (mkF m 26 #[.val (.ref b1), .val (.ref b2), .val (.int (0 : Int32))] [])) (fun _ k => XS.icmpYes X0.here hx rfl (pc0 := 21) (pc' := 26) rfl (hb hby d5_21) rfl (teq (by decide)).1 (by decide) (by decide) k) ?_
  refine Goes.step (B := s₁.setTop (mkF m 29 #[.val (.ref b1), .val (.ref b2), .val (.int (1 : Int32))] [])) (fun _ k => XS.iinc X0.here hx rfl (hb hby d5_26) rfl (l' := #[.val (.ref b1), .val (.ref b2), .val (.int (1 : Int32))]) rfl k) ?_
  refine Goes.step (B := s₁.setTop (mkF m 9 #[.val (.ref b1), .val (.ref b2), .val (.int (1 : Int32))] [])) (fun _ k => XS.goto X0.here hx rfl (pc0 := 29) (pc' := 9) rfl (hb hby d5_29) (by decide) (by decide) k) ?_
  refine Goes.step (B := s₁.setTop (mkF m 10 #[.val (.ref b1), .val (.ref b2), .val (.int (1 : Int32))] [(.int (1 : Int32))])) (fun _ k => XS.iloadN X0.here hx rfl (hb hby d5_9) rfl k) ?_
  refine Goes.step (B := s₁.setTop (mkF m 11 #[.val (.ref b1), .val (.ref b2), .val (.int (1 : Int32))] [(.ref b1), (.int (1 : Int32))])) (fun _ k => XS.aloadN X0.here hx rfl (hb hby d5_10) rfl rfl k) ?_
  obtain ⟨c6, Ar6, -, Sz6, Nn6, -, -⟩ := id V1
  have len6 := X0.arraylength hx (by rw [e0]; exact Ar6.1) (State.isArrayOf_alike hZ.alike Ar6.2.1) (g := (mkF m 11 #[.val (.ref b1), .val (.ref b2), .val (.int (1 : Int32))] [(.ref b1), (.int (1 : Int32))])) rfl rfl (hb hby d5_11)
  rw [len_of Sz6 Nn6] at len6
  refine Goes.step (B := s₁.setTop (mkF m 12 #[.val (.ref b1), .val (.ref b2), .val (.int (1 : Int32))] [(.int (8 : Int32)), (.int (1 : Int32))])) len6 ?_
  refine Goes.step (B := s₁.setTop (mkF m 15 #[.val (.ref b1), .val (.ref b2), .val (.int (1 : Int32))] [])) (fun _ k => XS.icmpNo X0.here hx rfl (hb hby d5_12) rfl (tlt (by decide)).2.1 k) ?_
  refine Goes.step (B := s₁.setTop (mkF m 16 #[.val (.ref b1), .val (.ref b2), .val (.int (1 : Int32))] [(.ref b1)])) (fun _ k => XS.aloadN X0.here hx rfl (hb hby d5_15) rfl rfl k) ?_
  refine Goes.step (B := s₁.setTop (mkF m 17 #[.val (.ref b1), .val (.ref b2), .val (.int (1 : Int32))] [(.int (1 : Int32)), (.ref b1)])) (fun _ k => XS.iloadN X0.here hx rfl (hb hby d5_16) rfl k) ?_
  obtain ⟨c7, Ar7, -, Sz7, Nn7, Hs7, -⟩ := id V1
  have hin7 : ¬ ((1 : Int32) < 0 ∨ c7.slots.size ≤ ((1 : Int32)).toNatClampNeg) := inb_of Sz7 ⟨by decide, by decide⟩
  refine Goes.step (B := s₁.setTop (mkF m 18 #[.val (.ref b1), .val (.ref b2), .val (.int (1 : Int32))] [(.int (114 : Int32))])) (X0.baloadBytes hx (j := (1 : Int32)) (v := (.int (114 : Int32))) (by rw [e0]; exact Ar7.1) (State.isArrayOf_alike hZ.alike Ar7.2.1) Ar7.2.2 hin7 (Has.at Hs7 hin7 rfl) (g := (mkF m 17 #[.val (.ref b1), .val (.ref b2), .val (.int (1 : Int32))] [(.int (1 : Int32)), (.ref b1)])) rfl rfl (hb hby d5_17)) ?_
  refine Goes.step (B := s₁.setTop (mkF m 19 #[.val (.ref b1), .val (.ref b2), .val (.int (1 : Int32))] [(.ref b2), (.int (114 : Int32))])) (fun _ k => XS.aloadN X0.here hx rfl (hb hby d5_18) rfl rfl k) ?_
  refine Goes.step (B := s₁.setTop (mkF m 20 #[.val (.ref b1), .val (.ref b2), .val (.int (1 : Int32))] [(.int (1 : Int32)), (.ref b2), (.int (114 : Int32))])) (fun _ k => XS.iloadN X0.here hx rfl (hb hby d5_19) rfl k) ?_
  obtain ⟨c8, Ar8, -, Sz8, Nn8, Hs8, -⟩ := id V2
  have hin8 : ¬ ((1 : Int32) < 0 ∨ c8.slots.size ≤ ((1 : Int32)).toNatClampNeg) := inb_of Sz8 ⟨by decide, by decide⟩
  refine Goes.step (B := s₁.setTop (mkF m 21 #[.val (.ref b1), .val (.ref b2), .val (.int (1 : Int32))] [(.int (114 : Int32)), (.int (114 : Int32))])) (X0.baloadBytes hx (j := (1 : Int32)) (v := (.int (114 : Int32))) (by rw [e0]; exact Ar8.1) (State.isArrayOf_alike hZ.alike Ar8.2.1) Ar8.2.2 hin8 (Has.at Hs8 hin8 rfl) (g := (mkF m 20 #[.val (.ref b1), .val (.ref b2), .val (.int (1 : Int32))] [(.int (1 : Int32)), (.ref b2), (.int (114 : Int32))])) rfl rfl (hb hby d5_20)) ?_
  refine Goes.step (B := s₁.setTop (mkF m 26 #[.val (.ref b1), .val (.ref b2), .val (.int (1 : Int32))] [])) (fun _ k => XS.icmpYes X0.here hx rfl (pc0 := 21) (pc' := 26) rfl (hb hby d5_21) rfl (teq (by decide)).1 (by decide) (by decide) k) ?_
  refine Goes.step (B := s₁.setTop (mkF m 29 #[.val (.ref b1), .val (.ref b2), .val (.int (2 : Int32))] [])) (fun _ k => XS.iinc X0.here hx rfl (hb hby d5_26) rfl (l' := #[.val (.ref b1), .val (.ref b2), .val (.int (2 : Int32))]) rfl k) ?_
  refine Goes.step (B := s₁.setTop (mkF m 9 #[.val (.ref b1), .val (.ref b2), .val (.int (2 : Int32))] [])) (fun _ k => XS.goto X0.here hx rfl (pc0 := 29) (pc' := 9) rfl (hb hby d5_29) (by decide) (by decide) k) ?_
  refine Goes.step (B := s₁.setTop (mkF m 10 #[.val (.ref b1), .val (.ref b2), .val (.int (2 : Int32))] [(.int (2 : Int32))])) (fun _ k => XS.iloadN X0.here hx rfl (hb hby d5_9) rfl k) ?_
  refine Goes.step (B := s₁.setTop (mkF m 11 #[.val (.ref b1), .val (.ref b2), .val (.int (2 : Int32))] [(.ref b1), (.int (2 : Int32))])) (fun _ k => XS.aloadN X0.here hx rfl (hb hby d5_10) rfl rfl k) ?_
  obtain ⟨c9, Ar9, -, Sz9, Nn9, -, -⟩ := id V1
  have len9 := X0.arraylength hx (by rw [e0]; exact Ar9.1) (State.isArrayOf_alike hZ.alike Ar9.2.1) (g := (mkF m 11 #[.val (.ref b1), .val (.ref b2), .val (.int (2 : Int32))] [(.ref b1), (.int (2 : Int32))])) rfl rfl (hb hby d5_11)
  rw [len_of Sz9 Nn9] at len9
  refine Goes.step (B := s₁.setTop (mkF m 12 #[.val (.ref b1), .val (.ref b2), .val (.int (2 : Int32))] [(.int (8 : Int32)), (.int (2 : Int32))])) len9 ?_
  refine Goes.step (B := s₁.setTop (mkF m 15 #[.val (.ref b1), .val (.ref b2), .val (.int (2 : Int32))] [])) (fun _ k => XS.icmpNo X0.here hx rfl (hb hby d5_12) rfl (tlt (by decide)).2.1 k) ?_
  refine Goes.step (B := s₁.setTop (mkF m 16 #[.val (.ref b1), .val (.ref b2), .val (.int (2 : Int32))] [(.ref b1)])) (fun _ k => XS.aloadN X0.here hx rfl (hb hby d5_15) rfl rfl k) ?_
  refine Goes.step (B := s₁.setTop (mkF m 17 #[.val (.ref b1), .val (.ref b2), .val (.int (2 : Int32))] [(.int (2 : Int32)), (.ref b1)])) (fun _ k => XS.iloadN X0.here hx rfl (hb hby d5_16) rfl k) ?_
  obtain ⟨c10, Ar10, -, Sz10, Nn10, Hs10, -⟩ := id V1
  have hin10 : ¬ ((2 : Int32) < 0 ∨ c10.slots.size ≤ ((2 : Int32)).toNatClampNeg) := inb_of Sz10 ⟨by decide, by decide⟩
  refine Goes.step (B := s₁.setTop (mkF m 18 #[.val (.ref b1), .val (.ref b2), .val (.int (2 : Int32))] [(.int (111 : Int32))])) (X0.baloadBytes hx (j := (2 : Int32)) (v := (.int (111 : Int32))) (by rw [e0]; exact Ar10.1) (State.isArrayOf_alike hZ.alike Ar10.2.1) Ar10.2.2 hin10 (Has.at Hs10 hin10 rfl) (g := (mkF m 17 #[.val (.ref b1), .val (.ref b2), .val (.int (2 : Int32))] [(.int (2 : Int32)), (.ref b1)])) rfl rfl (hb hby d5_17)) ?_
  refine Goes.step (B := s₁.setTop (mkF m 19 #[.val (.ref b1), .val (.ref b2), .val (.int (2 : Int32))] [(.ref b2), (.int (111 : Int32))])) (fun _ k => XS.aloadN X0.here hx rfl (hb hby d5_18) rfl rfl k) ?_
  refine Goes.step (B := s₁.setTop (mkF m 20 #[.val (.ref b1), .val (.ref b2), .val (.int (2 : Int32))] [(.int (2 : Int32)), (.ref b2), (.int (111 : Int32))])) (fun _ k => XS.iloadN X0.here hx rfl (hb hby d5_19) rfl k) ?_
  obtain ⟨c11, Ar11, -, Sz11, Nn11, Hs11, -⟩ := id V2
  have hin11 : ¬ ((2 : Int32) < 0 ∨ c11.slots.size ≤ ((2 : Int32)).toNatClampNeg) := inb_of Sz11 ⟨by decide, by decide⟩
  refine Goes.step (B := s₁.setTop (mkF m 21 #[.val (.ref b1), .val (.ref b2), .val (.int (2 : Int32))] [(.int (111 : Int32)), (.int (111 : Int32))])) (X0.baloadBytes hx (j := (2 : Int32)) (v := (.int (111 : Int32))) (by rw [e0]; exact Ar11.1) (State.isArrayOf_alike hZ.alike Ar11.2.1) Ar11.2.2 hin11 (Has.at Hs11 hin11 rfl) (g := (mkF m 20 #[.val (.ref b1), .val (.ref b2), .val (.int (2 : Int32))] [(.int (2 : Int32)), (.ref b2), (.int (111 : Int32))])) rfl rfl (hb hby d5_20)) ?_
  refine Goes.step (B := s₁.setTop (mkF m 26 #[.val (.ref b1), .val (.ref b2), .val (.int (2 : Int32))] [])) (fun _ k => XS.icmpYes X0.here hx rfl (pc0 := 21) (pc' := 26) rfl (hb hby d5_21) rfl (teq (by decide)).1 (by decide) (by decide) k) ?_
  refine Goes.step (B := s₁.setTop (mkF m 29 #[.val (.ref b1), .val (.ref b2), .val (.int (3 : Int32))] [])) (fun _ k => XS.iinc X0.here hx rfl (hb hby d5_26) rfl (l' := #[.val (.ref b1), .val (.ref b2), .val (.int (3 : Int32))]) rfl k) ?_
  refine Goes.step (B := s₁.setTop (mkF m 9 #[.val (.ref b1), .val (.ref b2), .val (.int (3 : Int32))] [])) (fun _ k => XS.goto X0.here hx rfl (pc0 := 29) (pc' := 9) rfl (hb hby d5_29) (by decide) (by decide) k) ?_
  refine Goes.step (B := s₁.setTop (mkF m 10 #[.val (.ref b1), .val (.ref b2), .val (.int (3 : Int32))] [(.int (3 : Int32))])) (fun _ k => XS.iloadN X0.here hx rfl (hb hby d5_9) rfl k) ?_
  refine Goes.step (B := s₁.setTop (mkF m 11 #[.val (.ref b1), .val (.ref b2), .val (.int (3 : Int32))] [(.ref b1), (.int (3 : Int32))])) (fun _ k => XS.aloadN X0.here hx rfl (hb hby d5_10) rfl rfl k) ?_
  obtain ⟨c12, Ar12, -, Sz12, Nn12, -, -⟩ := id V1
  have len12 := X0.arraylength hx (by rw [e0]; exact Ar12.1) (State.isArrayOf_alike hZ.alike Ar12.2.1) (g := (mkF m 11 #[.val (.ref b1), .val (.ref b2), .val (.int (3 : Int32))] [(.ref b1), (.int (3 : Int32))])) rfl rfl (hb hby d5_11)
  rw [len_of Sz12 Nn12] at len12
  refine Goes.step (B := s₁.setTop (mkF m 12 #[.val (.ref b1), .val (.ref b2), .val (.int (3 : Int32))] [(.int (8 : Int32)), (.int (3 : Int32))])) len12 ?_
  refine Goes.step (B := s₁.setTop (mkF m 15 #[.val (.ref b1), .val (.ref b2), .val (.int (3 : Int32))] [])) (fun _ k => XS.icmpNo X0.here hx rfl (hb hby d5_12) rfl (tlt (by decide)).2.1 k) ?_
  refine Goes.step (B := s₁.setTop (mkF m 16 #[.val (.ref b1), .val (.ref b2), .val (.int (3 : Int32))] [(.ref b1)])) (fun _ k => XS.aloadN X0.here hx rfl (hb hby d5_15) rfl rfl k) ?_
  refine Goes.step (B := s₁.setTop (mkF m 17 #[.val (.ref b1), .val (.ref b2), .val (.int (3 : Int32))] [(.int (3 : Int32)), (.ref b1)])) (fun _ k => XS.iloadN X0.here hx rfl (hb hby d5_16) rfl k) ?_
  obtain ⟨c13, Ar13, -, Sz13, Nn13, Hs13, -⟩ := id V1
  have hin13 : ¬ ((3 : Int32) < 0 ∨ c13.slots.size ≤ ((3 : Int32)).toNatClampNeg) := inb_of Sz13 ⟨by decide, by decide⟩
  refine Goes.step (B := s₁.setTop (mkF m 18 #[.val (.ref b1), .val (.ref b2), .val (.int (3 : Int32))] [(.int (110 : Int32))])) (X0.baloadBytes hx (j := (3 : Int32)) (v := (.int (110 : Int32))) (by rw [e0]; exact Ar13.1) (State.isArrayOf_alike hZ.alike Ar13.2.1) Ar13.2.2 hin13 (Has.at Hs13 hin13 rfl) (g := (mkF m 17 #[.val (.ref b1), .val (.ref b2), .val (.int (3 : Int32))] [(.int (3 : Int32)), (.ref b1)])) rfl rfl (hb hby d5_17)) ?_
  refine Goes.step (B := s₁.setTop (mkF m 19 #[.val (.ref b1), .val (.ref b2), .val (.int (3 : Int32))] [(.ref b2), (.int (110 : Int32))])) (fun _ k => XS.aloadN X0.here hx rfl (hb hby d5_18) rfl rfl k) ?_
  refine Goes.step (B := s₁.setTop (mkF m 20 #[.val (.ref b1), .val (.ref b2), .val (.int (3 : Int32))] [(.int (3 : Int32)), (.ref b2), (.int (110 : Int32))])) (fun _ k => XS.iloadN X0.here hx rfl (hb hby d5_19) rfl k) ?_
  obtain ⟨c14, Ar14, -, Sz14, Nn14, Hs14, -⟩ := id V2
  have hin14 : ¬ ((3 : Int32) < 0 ∨ c14.slots.size ≤ ((3 : Int32)).toNatClampNeg) := inb_of Sz14 ⟨by decide, by decide⟩
  refine Goes.step (B := s₁.setTop (mkF m 21 #[.val (.ref b1), .val (.ref b2), .val (.int (3 : Int32))] [(.int (110 : Int32)), (.int (110 : Int32))])) (X0.baloadBytes hx (j := (3 : Int32)) (v := (.int (110 : Int32))) (by rw [e0]; exact Ar14.1) (State.isArrayOf_alike hZ.alike Ar14.2.1) Ar14.2.2 hin14 (Has.at Hs14 hin14 rfl) (g := (mkF m 20 #[.val (.ref b1), .val (.ref b2), .val (.int (3 : Int32))] [(.int (3 : Int32)), (.ref b2), (.int (110 : Int32))])) rfl rfl (hb hby d5_20)) ?_
  refine Goes.step (B := s₁.setTop (mkF m 26 #[.val (.ref b1), .val (.ref b2), .val (.int (3 : Int32))] [])) (fun _ k => XS.icmpYes X0.here hx rfl (pc0 := 21) (pc' := 26) rfl (hb hby d5_21) rfl (teq (by decide)).1 (by decide) (by decide) k) ?_
  refine Goes.step (B := s₁.setTop (mkF m 29 #[.val (.ref b1), .val (.ref b2), .val (.int (4 : Int32))] [])) (fun _ k => XS.iinc X0.here hx rfl (hb hby d5_26) rfl (l' := #[.val (.ref b1), .val (.ref b2), .val (.int (4 : Int32))]) rfl k) ?_
  refine Goes.step (B := s₁.setTop (mkF m 9 #[.val (.ref b1), .val (.ref b2), .val (.int (4 : Int32))] [])) (fun _ k => XS.goto X0.here hx rfl (pc0 := 29) (pc' := 9) rfl (hb hby d5_29) (by decide) (by decide) k) ?_
  refine Goes.step (B := s₁.setTop (mkF m 10 #[.val (.ref b1), .val (.ref b2), .val (.int (4 : Int32))] [(.int (4 : Int32))])) (fun _ k => XS.iloadN X0.here hx rfl (hb hby d5_9) rfl k) ?_
  refine Goes.step (B := s₁.setTop (mkF m 11 #[.val (.ref b1), .val (.ref b2), .val (.int (4 : Int32))] [(.ref b1), (.int (4 : Int32))])) (fun _ k => XS.aloadN X0.here hx rfl (hb hby d5_10) rfl rfl k) ?_
  obtain ⟨c15, Ar15, -, Sz15, Nn15, -, -⟩ := id V1
  have len15 := X0.arraylength hx (by rw [e0]; exact Ar15.1) (State.isArrayOf_alike hZ.alike Ar15.2.1) (g := (mkF m 11 #[.val (.ref b1), .val (.ref b2), .val (.int (4 : Int32))] [(.ref b1), (.int (4 : Int32))])) rfl rfl (hb hby d5_11)
  rw [len_of Sz15 Nn15] at len15
  refine Goes.step (B := s₁.setTop (mkF m 12 #[.val (.ref b1), .val (.ref b2), .val (.int (4 : Int32))] [(.int (8 : Int32)), (.int (4 : Int32))])) len15 ?_
  refine Goes.step (B := s₁.setTop (mkF m 15 #[.val (.ref b1), .val (.ref b2), .val (.int (4 : Int32))] [])) (fun _ k => XS.icmpNo X0.here hx rfl (hb hby d5_12) rfl (tlt (by decide)).2.1 k) ?_
  refine Goes.step (B := s₁.setTop (mkF m 16 #[.val (.ref b1), .val (.ref b2), .val (.int (4 : Int32))] [(.ref b1)])) (fun _ k => XS.aloadN X0.here hx rfl (hb hby d5_15) rfl rfl k) ?_
  refine Goes.step (B := s₁.setTop (mkF m 17 #[.val (.ref b1), .val (.ref b2), .val (.int (4 : Int32))] [(.int (4 : Int32)), (.ref b1)])) (fun _ k => XS.iloadN X0.here hx rfl (hb hby d5_16) rfl k) ?_
  obtain ⟨c16, Ar16, -, Sz16, Nn16, Hs16, -⟩ := id V1
  have hin16 : ¬ ((4 : Int32) < 0 ∨ c16.slots.size ≤ ((4 : Int32)).toNatClampNeg) := inb_of Sz16 ⟨by decide, by decide⟩
  refine Goes.step (B := s₁.setTop (mkF m 18 #[.val (.ref b1), .val (.ref b2), .val (.int (4 : Int32))] [(.int (116 : Int32))])) (X0.baloadBytes hx (j := (4 : Int32)) (v := (.int (116 : Int32))) (by rw [e0]; exact Ar16.1) (State.isArrayOf_alike hZ.alike Ar16.2.1) Ar16.2.2 hin16 (Has.at Hs16 hin16 rfl) (g := (mkF m 17 #[.val (.ref b1), .val (.ref b2), .val (.int (4 : Int32))] [(.int (4 : Int32)), (.ref b1)])) rfl rfl (hb hby d5_17)) ?_
  refine Goes.step (B := s₁.setTop (mkF m 19 #[.val (.ref b1), .val (.ref b2), .val (.int (4 : Int32))] [(.ref b2), (.int (116 : Int32))])) (fun _ k => XS.aloadN X0.here hx rfl (hb hby d5_18) rfl rfl k) ?_
  refine Goes.step (B := s₁.setTop (mkF m 20 #[.val (.ref b1), .val (.ref b2), .val (.int (4 : Int32))] [(.int (4 : Int32)), (.ref b2), (.int (116 : Int32))])) (fun _ k => XS.iloadN X0.here hx rfl (hb hby d5_19) rfl k) ?_
  obtain ⟨c17, Ar17, -, Sz17, Nn17, Hs17, -⟩ := id V2
  have hin17 : ¬ ((4 : Int32) < 0 ∨ c17.slots.size ≤ ((4 : Int32)).toNatClampNeg) := inb_of Sz17 ⟨by decide, by decide⟩
  refine Goes.step (B := s₁.setTop (mkF m 21 #[.val (.ref b1), .val (.ref b2), .val (.int (4 : Int32))] [(.int (116 : Int32)), (.int (116 : Int32))])) (X0.baloadBytes hx (j := (4 : Int32)) (v := (.int (116 : Int32))) (by rw [e0]; exact Ar17.1) (State.isArrayOf_alike hZ.alike Ar17.2.1) Ar17.2.2 hin17 (Has.at Hs17 hin17 rfl) (g := (mkF m 20 #[.val (.ref b1), .val (.ref b2), .val (.int (4 : Int32))] [(.int (4 : Int32)), (.ref b2), (.int (116 : Int32))])) rfl rfl (hb hby d5_20)) ?_
  refine Goes.step (B := s₁.setTop (mkF m 26 #[.val (.ref b1), .val (.ref b2), .val (.int (4 : Int32))] [])) (fun _ k => XS.icmpYes X0.here hx rfl (pc0 := 21) (pc' := 26) rfl (hb hby d5_21) rfl (teq (by decide)).1 (by decide) (by decide) k) ?_
  refine Goes.step (B := s₁.setTop (mkF m 29 #[.val (.ref b1), .val (.ref b2), .val (.int (5 : Int32))] [])) (fun _ k => XS.iinc X0.here hx rfl (hb hby d5_26) rfl (l' := #[.val (.ref b1), .val (.ref b2), .val (.int (5 : Int32))]) rfl k) ?_
  refine Goes.step (B := s₁.setTop (mkF m 9 #[.val (.ref b1), .val (.ref b2), .val (.int (5 : Int32))] [])) (fun _ k => XS.goto X0.here hx rfl (pc0 := 29) (pc' := 9) rfl (hb hby d5_29) (by decide) (by decide) k) ?_
  refine Goes.step (B := s₁.setTop (mkF m 10 #[.val (.ref b1), .val (.ref b2), .val (.int (5 : Int32))] [(.int (5 : Int32))])) (fun _ k => XS.iloadN X0.here hx rfl (hb hby d5_9) rfl k) ?_
  refine Goes.step (B := s₁.setTop (mkF m 11 #[.val (.ref b1), .val (.ref b2), .val (.int (5 : Int32))] [(.ref b1), (.int (5 : Int32))])) (fun _ k => XS.aloadN X0.here hx rfl (hb hby d5_10) rfl rfl k) ?_
  obtain ⟨c18, Ar18, -, Sz18, Nn18, -, -⟩ := id V1
  have len18 := X0.arraylength hx (by rw [e0]; exact Ar18.1) (State.isArrayOf_alike hZ.alike Ar18.2.1) (g := (mkF m 11 #[.val (.ref b1), .val (.ref b2), .val (.int (5 : Int32))] [(.ref b1), (.int (5 : Int32))])) rfl rfl (hb hby d5_11)
  rw [len_of Sz18 Nn18] at len18
  refine Goes.step (B := s₁.setTop (mkF m 12 #[.val (.ref b1), .val (.ref b2), .val (.int (5 : Int32))] [(.int (8 : Int32)), (.int (5 : Int32))])) len18 ?_
  refine Goes.step (B := s₁.setTop (mkF m 15 #[.val (.ref b1), .val (.ref b2), .val (.int (5 : Int32))] [])) (fun _ k => XS.icmpNo X0.here hx rfl (hb hby d5_12) rfl (tlt (by decide)).2.1 k) ?_
  refine Goes.step (B := s₁.setTop (mkF m 16 #[.val (.ref b1), .val (.ref b2), .val (.int (5 : Int32))] [(.ref b1)])) (fun _ k => XS.aloadN X0.here hx rfl (hb hby d5_15) rfl rfl k) ?_
  refine Goes.step (B := s₁.setTop (mkF m 17 #[.val (.ref b1), .val (.ref b2), .val (.int (5 : Int32))] [(.int (5 : Int32)), (.ref b1)])) (fun _ k => XS.iloadN X0.here hx rfl (hb hby d5_16) rfl k) ?_
  obtain ⟨c19, Ar19, -, Sz19, Nn19, Hs19, -⟩ := id V1
  have hin19 : ¬ ((5 : Int32) < 0 ∨ c19.slots.size ≤ ((5 : Int32)).toNatClampNeg) := inb_of Sz19 ⟨by decide, by decide⟩
  refine Goes.step (B := s₁.setTop (mkF m 18 #[.val (.ref b1), .val (.ref b2), .val (.int (5 : Int32))] [(.int (32 : Int32))])) (X0.baloadBytes hx (j := (5 : Int32)) (v := (.int (32 : Int32))) (by rw [e0]; exact Ar19.1) (State.isArrayOf_alike hZ.alike Ar19.2.1) Ar19.2.2 hin19 (Has.at Hs19 hin19 rfl) (g := (mkF m 17 #[.val (.ref b1), .val (.ref b2), .val (.int (5 : Int32))] [(.int (5 : Int32)), (.ref b1)])) rfl rfl (hb hby d5_17)) ?_
  refine Goes.step (B := s₁.setTop (mkF m 19 #[.val (.ref b1), .val (.ref b2), .val (.int (5 : Int32))] [(.ref b2), (.int (32 : Int32))])) (fun _ k => XS.aloadN X0.here hx rfl (hb hby d5_18) rfl rfl k) ?_
  refine Goes.step (B := s₁.setTop (mkF m 20 #[.val (.ref b1), .val (.ref b2), .val (.int (5 : Int32))] [(.int (5 : Int32)), (.ref b2), (.int (32 : Int32))])) (fun _ k => XS.iloadN X0.here hx rfl (hb hby d5_19) rfl k) ?_
  obtain ⟨c20, Ar20, -, Sz20, Nn20, Hs20, -⟩ := id V2
  have hin20 : ¬ ((5 : Int32) < 0 ∨ c20.slots.size ≤ ((5 : Int32)).toNatClampNeg) := inb_of Sz20 ⟨by decide, by decide⟩
  refine Goes.step (B := s₁.setTop (mkF m 21 #[.val (.ref b1), .val (.ref b2), .val (.int (5 : Int32))] [(.int (32 : Int32)), (.int (32 : Int32))])) (X0.baloadBytes hx (j := (5 : Int32)) (v := (.int (32 : Int32))) (by rw [e0]; exact Ar20.1) (State.isArrayOf_alike hZ.alike Ar20.2.1) Ar20.2.2 hin20 (Has.at Hs20 hin20 rfl) (g := (mkF m 20 #[.val (.ref b1), .val (.ref b2), .val (.int (5 : Int32))] [(.int (5 : Int32)), (.ref b2), (.int (32 : Int32))])) rfl rfl (hb hby d5_20)) ?_
  refine Goes.step (B := s₁.setTop (mkF m 26 #[.val (.ref b1), .val (.ref b2), .val (.int (5 : Int32))] [])) (fun _ k => XS.icmpYes X0.here hx rfl (pc0 := 21) (pc' := 26) rfl (hb hby d5_21) rfl (teq (by decide)).1 (by decide) (by decide) k) ?_
  refine Goes.step (B := s₁.setTop (mkF m 29 #[.val (.ref b1), .val (.ref b2), .val (.int (6 : Int32))] [])) (fun _ k => XS.iinc X0.here hx rfl (hb hby d5_26) rfl (l' := #[.val (.ref b1), .val (.ref b2), .val (.int (6 : Int32))]) rfl k) ?_
  refine Goes.step (B := s₁.setTop (mkF m 9 #[.val (.ref b1), .val (.ref b2), .val (.int (6 : Int32))] [])) (fun _ k => XS.goto X0.here hx rfl (pc0 := 29) (pc' := 9) rfl (hb hby d5_29) (by decide) (by decide) k) ?_
  refine Goes.step (B := s₁.setTop (mkF m 10 #[.val (.ref b1), .val (.ref b2), .val (.int (6 : Int32))] [(.int (6 : Int32))])) (fun _ k => XS.iloadN X0.here hx rfl (hb hby d5_9) rfl k) ?_
  refine Goes.step (B := s₁.setTop (mkF m 11 #[.val (.ref b1), .val (.ref b2), .val (.int (6 : Int32))] [(.ref b1), (.int (6 : Int32))])) (fun _ k => XS.aloadN X0.here hx rfl (hb hby d5_10) rfl rfl k) ?_
  obtain ⟨c21, Ar21, -, Sz21, Nn21, -, -⟩ := id V1
  have len21 := X0.arraylength hx (by rw [e0]; exact Ar21.1) (State.isArrayOf_alike hZ.alike Ar21.2.1) (g := (mkF m 11 #[.val (.ref b1), .val (.ref b2), .val (.int (6 : Int32))] [(.ref b1), (.int (6 : Int32))])) rfl rfl (hb hby d5_11)
  rw [len_of Sz21 Nn21] at len21
  refine Goes.step (B := s₁.setTop (mkF m 12 #[.val (.ref b1), .val (.ref b2), .val (.int (6 : Int32))] [(.int (8 : Int32)), (.int (6 : Int32))])) len21 ?_
  refine Goes.step (B := s₁.setTop (mkF m 15 #[.val (.ref b1), .val (.ref b2), .val (.int (6 : Int32))] [])) (fun _ k => XS.icmpNo X0.here hx rfl (hb hby d5_12) rfl (tlt (by decide)).2.1 k) ?_
  refine Goes.step (B := s₁.setTop (mkF m 16 #[.val (.ref b1), .val (.ref b2), .val (.int (6 : Int32))] [(.ref b1)])) (fun _ k => XS.aloadN X0.here hx rfl (hb hby d5_15) rfl rfl k) ?_
  refine Goes.step (B := s₁.setTop (mkF m 17 #[.val (.ref b1), .val (.ref b2), .val (.int (6 : Int32))] [(.int (6 : Int32)), (.ref b1)])) (fun _ k => XS.iloadN X0.here hx rfl (hb hby d5_16) rfl k) ?_
  obtain ⟨c22, Ar22, -, Sz22, Nn22, Hs22, -⟩ := id V1
  have hin22 : ¬ ((6 : Int32) < 0 ∨ c22.slots.size ≤ ((6 : Int32)).toNatClampNeg) := inb_of Sz22 ⟨by decide, by decide⟩
  refine Goes.step (B := s₁.setTop (mkF m 18 #[.val (.ref b1), .val (.ref b2), .val (.int (6 : Int32))] [(.int (66 : Int32))])) (X0.baloadBytes hx (j := (6 : Int32)) (v := (.int (66 : Int32))) (by rw [e0]; exact Ar22.1) (State.isArrayOf_alike hZ.alike Ar22.2.1) Ar22.2.2 hin22 (Has.at Hs22 hin22 rfl) (g := (mkF m 17 #[.val (.ref b1), .val (.ref b2), .val (.int (6 : Int32))] [(.int (6 : Int32)), (.ref b1)])) rfl rfl (hb hby d5_17)) ?_
  refine Goes.step (B := s₁.setTop (mkF m 19 #[.val (.ref b1), .val (.ref b2), .val (.int (6 : Int32))] [(.ref b2), (.int (66 : Int32))])) (fun _ k => XS.aloadN X0.here hx rfl (hb hby d5_18) rfl rfl k) ?_
  refine Goes.step (B := s₁.setTop (mkF m 20 #[.val (.ref b1), .val (.ref b2), .val (.int (6 : Int32))] [(.int (6 : Int32)), (.ref b2), (.int (66 : Int32))])) (fun _ k => XS.iloadN X0.here hx rfl (hb hby d5_19) rfl k) ?_
  obtain ⟨c23, Ar23, -, Sz23, Nn23, Hs23, -⟩ := id V2
  have hin23 : ¬ ((6 : Int32) < 0 ∨ c23.slots.size ≤ ((6 : Int32)).toNatClampNeg) := inb_of Sz23 ⟨by decide, by decide⟩
  refine Goes.step (B := s₁.setTop (mkF m 21 #[.val (.ref b1), .val (.ref b2), .val (.int (6 : Int32))] [(.int (66 : Int32)), (.int (66 : Int32))])) (X0.baloadBytes hx (j := (6 : Int32)) (v := (.int (66 : Int32))) (by rw [e0]; exact Ar23.1) (State.isArrayOf_alike hZ.alike Ar23.2.1) Ar23.2.2 hin23 (Has.at Hs23 hin23 rfl) (g := (mkF m 20 #[.val (.ref b1), .val (.ref b2), .val (.int (6 : Int32))] [(.int (6 : Int32)), (.ref b2), (.int (66 : Int32))])) rfl rfl (hb hby d5_20)) ?_
  refine Goes.step (B := s₁.setTop (mkF m 26 #[.val (.ref b1), .val (.ref b2), .val (.int (6 : Int32))] [])) (fun _ k => XS.icmpYes X0.here hx rfl (pc0 := 21) (pc' := 26) rfl (hb hby d5_21) rfl (teq (by decide)).1 (by decide) (by decide) k) ?_
  refine Goes.step (B := s₁.setTop (mkF m 29 #[.val (.ref b1), .val (.ref b2), .val (.int (7 : Int32))] [])) (fun _ k => XS.iinc X0.here hx rfl (hb hby d5_26) rfl (l' := #[.val (.ref b1), .val (.ref b2), .val (.int (7 : Int32))]) rfl k) ?_
  refine Goes.step (B := s₁.setTop (mkF m 9 #[.val (.ref b1), .val (.ref b2), .val (.int (7 : Int32))] [])) (fun _ k => XS.goto X0.here hx rfl (pc0 := 29) (pc' := 9) rfl (hb hby d5_29) (by decide) (by decide) k) ?_
  refine Goes.step (B := s₁.setTop (mkF m 10 #[.val (.ref b1), .val (.ref b2), .val (.int (7 : Int32))] [(.int (7 : Int32))])) (fun _ k => XS.iloadN X0.here hx rfl (hb hby d5_9) rfl k) ?_
  refine Goes.step (B := s₁.setTop (mkF m 11 #[.val (.ref b1), .val (.ref b2), .val (.int (7 : Int32))] [(.ref b1), (.int (7 : Int32))])) (fun _ k => XS.aloadN X0.here hx rfl (hb hby d5_10) rfl rfl k) ?_
  obtain ⟨c24, Ar24, -, Sz24, Nn24, -, -⟩ := id V1
  have len24 := X0.arraylength hx (by rw [e0]; exact Ar24.1) (State.isArrayOf_alike hZ.alike Ar24.2.1) (g := (mkF m 11 #[.val (.ref b1), .val (.ref b2), .val (.int (7 : Int32))] [(.ref b1), (.int (7 : Int32))])) rfl rfl (hb hby d5_11)
  rw [len_of Sz24 Nn24] at len24
  refine Goes.step (B := s₁.setTop (mkF m 12 #[.val (.ref b1), .val (.ref b2), .val (.int (7 : Int32))] [(.int (8 : Int32)), (.int (7 : Int32))])) len24 ?_
  refine Goes.step (B := s₁.setTop (mkF m 15 #[.val (.ref b1), .val (.ref b2), .val (.int (7 : Int32))] [])) (fun _ k => XS.icmpNo X0.here hx rfl (hb hby d5_12) rfl (tlt (by decide)).2.1 k) ?_
  refine Goes.step (B := s₁.setTop (mkF m 16 #[.val (.ref b1), .val (.ref b2), .val (.int (7 : Int32))] [(.ref b1)])) (fun _ k => XS.aloadN X0.here hx rfl (hb hby d5_15) rfl rfl k) ?_
  refine Goes.step (B := s₁.setTop (mkF m 17 #[.val (.ref b1), .val (.ref b2), .val (.int (7 : Int32))] [(.int (7 : Int32)), (.ref b1)])) (fun _ k => XS.iloadN X0.here hx rfl (hb hby d5_16) rfl k) ?_
  obtain ⟨c25, Ar25, -, Sz25, Nn25, Hs25, -⟩ := id V1
  have hin25 : ¬ ((7 : Int32) < 0 ∨ c25.slots.size ≤ ((7 : Int32)).toNatClampNeg) := inb_of Sz25 ⟨by decide, by decide⟩
  refine Goes.step (B := s₁.setTop (mkF m 18 #[.val (.ref b1), .val (.ref b2), .val (.int (7 : Int32))] [(.int (87 : Int32))])) (X0.baloadBytes hx (j := (7 : Int32)) (v := (.int (87 : Int32))) (by rw [e0]; exact Ar25.1) (State.isArrayOf_alike hZ.alike Ar25.2.1) Ar25.2.2 hin25 (Has.at Hs25 hin25 rfl) (g := (mkF m 17 #[.val (.ref b1), .val (.ref b2), .val (.int (7 : Int32))] [(.int (7 : Int32)), (.ref b1)])) rfl rfl (hb hby d5_17)) ?_
  refine Goes.step (B := s₁.setTop (mkF m 19 #[.val (.ref b1), .val (.ref b2), .val (.int (7 : Int32))] [(.ref b2), (.int (87 : Int32))])) (fun _ k => XS.aloadN X0.here hx rfl (hb hby d5_18) rfl rfl k) ?_
  refine Goes.step (B := s₁.setTop (mkF m 20 #[.val (.ref b1), .val (.ref b2), .val (.int (7 : Int32))] [(.int (7 : Int32)), (.ref b2), (.int (87 : Int32))])) (fun _ k => XS.iloadN X0.here hx rfl (hb hby d5_19) rfl k) ?_
  obtain ⟨c26, Ar26, -, Sz26, Nn26, Hs26, -⟩ := id V2
  have hin26 : ¬ ((7 : Int32) < 0 ∨ c26.slots.size ≤ ((7 : Int32)).toNatClampNeg) := inb_of Sz26 ⟨by decide, by decide⟩
  refine Goes.step (B := s₁.setTop (mkF m 21 #[.val (.ref b1), .val (.ref b2), .val (.int (7 : Int32))] [(.int (87 : Int32)), (.int (87 : Int32))])) (X0.baloadBytes hx (j := (7 : Int32)) (v := (.int (87 : Int32))) (by rw [e0]; exact Ar26.1) (State.isArrayOf_alike hZ.alike Ar26.2.1) Ar26.2.2 hin26 (Has.at Hs26 hin26 rfl) (g := (mkF m 20 #[.val (.ref b1), .val (.ref b2), .val (.int (7 : Int32))] [(.int (7 : Int32)), (.ref b2), (.int (87 : Int32))])) rfl rfl (hb hby d5_20)) ?_
  refine Goes.step (B := s₁.setTop (mkF m 26 #[.val (.ref b1), .val (.ref b2), .val (.int (7 : Int32))] [])) (fun _ k => XS.icmpYes X0.here hx rfl (pc0 := 21) (pc' := 26) rfl (hb hby d5_21) rfl (teq (by decide)).1 (by decide) (by decide) k) ?_
  refine Goes.step (B := s₁.setTop (mkF m 29 #[.val (.ref b1), .val (.ref b2), .val (.int (8 : Int32))] [])) (fun _ k => XS.iinc X0.here hx rfl (hb hby d5_26) rfl (l' := #[.val (.ref b1), .val (.ref b2), .val (.int (8 : Int32))]) rfl k) ?_
  refine Goes.step (B := s₁.setTop (mkF m 9 #[.val (.ref b1), .val (.ref b2), .val (.int (8 : Int32))] [])) (fun _ k => XS.goto X0.here hx rfl (pc0 := 29) (pc' := 9) rfl (hb hby d5_29) (by decide) (by decide) k) ?_
  refine Goes.step (B := s₁.setTop (mkF m 10 #[.val (.ref b1), .val (.ref b2), .val (.int (8 : Int32))] [(.int (8 : Int32))])) (fun _ k => XS.iloadN X0.here hx rfl (hb hby d5_9) rfl k) ?_
  refine Goes.step (B := s₁.setTop (mkF m 11 #[.val (.ref b1), .val (.ref b2), .val (.int (8 : Int32))] [(.ref b1), (.int (8 : Int32))])) (fun _ k => XS.aloadN X0.here hx rfl (hb hby d5_10) rfl rfl k) ?_
  obtain ⟨c27, Ar27, -, Sz27, Nn27, -, -⟩ := id V1
  have len27 := X0.arraylength hx (by rw [e0]; exact Ar27.1) (State.isArrayOf_alike hZ.alike Ar27.2.1) (g := (mkF m 11 #[.val (.ref b1), .val (.ref b2), .val (.int (8 : Int32))] [(.ref b1), (.int (8 : Int32))])) rfl rfl (hb hby d5_11)
  rw [len_of Sz27 Nn27] at len27
  refine Goes.step (B := s₁.setTop (mkF m 12 #[.val (.ref b1), .val (.ref b2), .val (.int (8 : Int32))] [(.int (8 : Int32)), (.int (8 : Int32))])) len27 ?_
  refine Goes.step (B := s₁.setTop (mkF m 32 #[.val (.ref b1), .val (.ref b2), .val (.int (8 : Int32))] [])) (fun _ k => XS.icmpYes X0.here hx rfl (pc0 := 12) (pc' := 32) rfl (hb hby d5_12) rfl (flt (by decide)).2.1 (by decide) (by decide) k) ?_
  refine Goes.step (B := s₁.setTop (mkF m 33 #[.val (.ref b1), .val (.ref b2), .val (.int (8 : Int32))] [(.int (1 : Int32))])) (fun _ k => XS.iconst X0.here hx rfl (hb hby d5_32) k) ?_
  exact Goes.retN X0 hx e0 (t := .boolean) Bd.returns (by simp) hlk (hb hby d5_33) (by decide) (by decide) (⟨rfl, N0, rfl⟩)
theorem d4_7 : decode jdk_42_method_66_code 7 = .ok (.aload_n 1, 1) := by decide +kernel
theorem d4_8 : decode jdk_42_method_66_code 8 = .ok (.instanceof 10, 3) := by decide +kernel
theorem d4_11 : decode jdk_42_method_66_code 11 = .ok (.ifCond .eq 43, 3) := by decide +kernel
theorem d4_14 : decode jdk_42_method_66_code 14 = .ok (.aload_n 1, 1) := by decide +kernel
theorem d4_15 : decode jdk_42_method_66_code 15 = .ok (.checkcast 10, 3) := by decide +kernel
theorem d4_18 : decode jdk_42_method_66_code 18 = .ok (.astore_n 2, 1) := by decide +kernel
theorem d4_19 : decode jdk_42_method_66_code 19 = .ok (.getstatic 38, 3) := by decide +kernel
theorem d4_22 : decode jdk_42_method_66_code 22 = .ok (.ifCond .eq 14, 3) := by decide +kernel
theorem d4_25 : decode jdk_42_method_66_code 25 = .ok (.aload_n 0, 1) := by decide +kernel
theorem d4_26 : decode jdk_42_method_66_code 26 = .ok (.getfield 15, 3) := by decide +kernel
theorem d4_29 : decode jdk_42_method_66_code 29 = .ok (.aload_n 2, 1) := by decide +kernel
theorem d4_30 : decode jdk_42_method_66_code 30 = .ok (.getfield 15, 3) := by decide +kernel
theorem d4_33 : decode jdk_42_method_66_code 33 = .ok (.if_icmp .ne 21, 3) := by decide +kernel
theorem d4_36 : decode jdk_42_method_66_code 36 = .ok (.aload_n 0, 1) := by decide +kernel
theorem d4_37 : decode jdk_42_method_66_code 37 = .ok (.getfield 9, 3) := by decide +kernel
theorem d4_40 : decode jdk_42_method_66_code 40 = .ok (.aload_n 2, 1) := by decide +kernel
theorem d4_41 : decode jdk_42_method_66_code 41 = .ok (.getfield 9, 3) := by decide +kernel
theorem d4_44 : decode jdk_42_method_66_code 44 = .ok (.invokestatic 541, 3) := by decide +kernel
theorem pd_1 : parseMethodDescriptor "([B[B)Z" = some ⟨[(.array .byte), (.array .byte)], some .boolean⟩ := by decide +kernel
theorem d4_47 : decode jdk_42_method_66_code 47 = .ok (.ifCond .eq 7, 3) := by decide +kernel
theorem d4_50 : decode jdk_42_method_66_code 50 = .ok (.iconst 1, 1) := by decide +kernel
theorem d4_51 : decode jdk_42_method_66_code 51 = .ok (.goto 4, 3) := by decide +kernel
theorem d4_55 : decode jdk_42_method_66_code 55 = .ok (.ireturn, 1) := by decide +kernel
theorem ef_rmEq0 (m : MethodId) (x0 : Addr) (x1 : Addr) : entryFrame m #[(.ref x0), (.ref x1)] 3 = mkF m 0 #[.val (.ref x0), .val (.ref x1), .unset] [] := by first | (simp [entryFrame, mkF, argsToLocals, Value.category]; done) | rfl
def QEq0 (Z : State) (a1 : Addr) (a2 : Addr) (b1 : Addr) (b2 : Addr) (k1 : ClassId) (k2 : ClassId) (cs : Int32) (h0 : Heap) (n0 : Nat) (v : Option Value) (h : Heap) (L : List Loc) : Prop := v = some (.int (1 : Int32)) ∧ Fr n0 L ∧ h = h0
set_option maxRecDepth 65536 in
set_option maxHeartbeats 40000000 in
theorem rmEq0 (l : Launch) (Z : State) (a0 : Array Value) (hw : ∀ d ∈ tables_1, d.before a0 Z = true) (ws : List Jvm.Cond) (a1 : Addr) (a2 : Addr) (b1 : Addr) (b2 : Addr) (k1 : ClassId) (k2 : ClassId) (cs : Int32) (h0 : Heap) (n0 : Nat) (O0 : Old Z n0 h0) (Sc : Sta Z h0 "java/lang/String" "COMPACT_STRINGS" "Z" (.int cs)) (hcs : ¬ cs = (0 : Int32)) (E2 : Exa Z h0 a2 "java/lang/String") (Fc1 : Fld Z h0 a1 "java/lang/String" "coder" "B" (.int (0 : Int32))) (Fv1 : Fld Z h0 a1 "java/lang/String" "value" "[B" (.ref b1)) (V1 : Arv Z h0 b1 k1 .byte (8 : Int32) [.int (70 : Int32), .int (114 : Int32), .int (111 : Int32), .int (110 : Int32), .int (116 : Int32), .int (32 : Int32), .int (66 : Int32), .int (87 : Int32)] (.int (0 : Int32))) (Fc2 : Fld Z h0 a2 "java/lang/String" "coder" "B" (.int (0 : Int32))) (Fv2 : Fld Z h0 a2 "java/lang/String" "value" "[B" (.ref b2)) (V2 : Arv Z h0 b2 k2 .byte (8 : Int32) [.int (70 : Int32), .int (114 : Int32), .int (111 : Int32), .int (110 : Int32), .int (116 : Int32), .int (32 : Int32), .int (66 : Int32), .int (87 : Int32)] (.int (0 : Int32))) :
    MetFree l (⟨"java/lang/String", "equals", "(Ljava/lang/Object;)Z"⟩ : MethodName) (head1 (Jvm.Cond.code (⟨"java/lang/String", "equals", "(Ljava/lang/Object;)Z"⟩ : MethodName) jdk_42_method_66_code 3 (some .boolean) :: ws) ({ frames := 1, cells := 0, slots := 0, locals := 14 } : Room)) (fun a U => a = #[(.ref a1), (.ref a2)] ∧ Z.Warmed39 U.vm ∧ U.heap = h0) (fun _ _ _ _ _ => True) (fun _ U o U' => ∃ v L, o = .returned v ∧ QEq0 Z a1 a2 b1 b2 k1 k2 cs h0 n0 v U'.heap L ∧ FrameEnd U o U' L ({ frames := 1, cells := 0, slots := 0, locals := 14 } : Room).cells ({ frames := 1, cells := 0, slots := 0, locals := 14 } : Room).slots) := by
  refine MetFree.of_bodySF (plainFor_of_name pn_String) hisR ?_
  intro p e s m args below meth c s₁ Bd hml0 hP hK
  obtain ⟨rfl, hZ, hh⟩ := hP
  have hx := Bd.exec
  have hby := Bd.bytes
  have hlk : meth.locks = false := BodyLoose.notSynchronized Bd
  have hml : c.maxLocals = 3 := hml0
  have hown : s.vm.findClass "java/lang/String" = some m.cls := findClass_of_methodNamed Bd.named
  have hnm := (name_of_methodNamed Bd.named Bd.method).1
  have X0 : Stand p l e ({ frames := 1, cells := 0, slots := 0, locals := 14 } : Room) s m #[(.ref a1), (.ref a2)] below meth c s₁ [] 0 0 := Stand.of_body Bd
  have e0 : s₁.heap = h0 := by rw [← hh, Bd.state]; rfl
  have N0 := Fr.nil n0
  show Goes p e below s (QEq0 Z a1 a2 b1 b2 k1 k2 cs h0 n0) ({ frames := 1, cells := 0, slots := 0, locals := 14 } : Room).cells ({ frames := 1, cells := 0, slots := 0, locals := 14 } : Room).slots (s₁.setTop (entryFrame m #[(.ref a1), (.ref a2)] 3))
  refine Goes.enter (g' := (mkF m 0 #[.val (.ref a1), .val (.ref a2), .unset] [])) (ef_rmEq0 m a1 a2) ?_
  refine Goes.step (B := s₁.setTop (mkF m 1 #[.val (.ref a1), .val (.ref a2), .unset] [(.ref a1)])) (fun _ k => XS.aloadN X0.here hx rfl (hb hby d4_0) rfl rfl k) ?_
  refine Goes.step (B := s₁.setTop (mkF m 2 #[.val (.ref a1), .val (.ref a2), .unset] [(.ref a2), (.ref a1)])) (fun _ k => XS.aloadN X0.here hx rfl (hb hby d4_1) rfl rfl k) ?_
  by_cases hc2_0 : a1 = a2
  · refine Goes.step (B := s₁.setTop (mkF m 5 #[.val (.ref a1), .val (.ref a2), .unset] [])) (fun _ k => Jvm.RoadKit.acmp (g := (mkF m 2 #[.val (.ref a1), .val (.ref a2), .unset] [(.ref a2), (.ref a1)])) X0 hx rfl rfl rfl (pc0 := 2) (pc' := 5) (same := true) rfl (hb hby d4_2) rfl (decide_eq_true (congrArg Value.ref hc2_0)) (by decide) (by decide) k) ?_
    refine Goes.step (B := s₁.setTop (mkF m 6 #[.val (.ref a1), .val (.ref a2), .unset] [(.int (1 : Int32))])) (fun _ k => XS.iconst X0.here hx rfl (hb hby d4_5) k) ?_
    exact Goes.retN X0 hx e0 (t := .boolean) Bd.returns (by simp) hlk (hb hby d4_6) (by decide) (by decide) (⟨rfl, N0, rfl⟩)
  · refine Goes.step (B := s₁.setTop (mkF m 7 #[.val (.ref a1), .val (.ref a2), .unset] [])) (fun _ k => Jvm.RoadKit.acmp (g := (mkF m 2 #[.val (.ref a1), .val (.ref a2), .unset] [(.ref a2), (.ref a1)])) X0 hx rfl rfl rfl (pc0 := 2) (pc' := 7) (same := false) rfl (hb hby d4_2) rfl (decide_eq_false fun q => hc2_0 (Value.ref.inj q)) (by decide) (by decide) k) ?_
    refine Goes.step (B := s₁.setTop (mkF m 8 #[.val (.ref a1), .val (.ref a2), .unset] [(.ref a2)])) (fun _ k => XS.aloadN X0.here hx rfl (hb hby d4_7) rfl rfl k) ?_
    obtain ⟨T2, X2, e2, st2⟩ := instY X0 hx hZ hown (hw _ (List.mem_of_getElem? (i := 44) rfl)) e0 (Ins.self E2) (g := (mkF m 8 #[.val (.ref a1), .val (.ref a2), .unset] [(.ref a2)])) rfl rfl (hb hby d4_8)
    refine Goes.step (B := T2.setTop (mkF m 11 #[.val (.ref a1), .val (.ref a2), .unset] [(.int (1 : Int32))])) st2 ?_
    refine Goes.step (B := T2.setTop (mkF m 14 #[.val (.ref a1), .val (.ref a2), .unset] [])) (fun _ k => XS.ifNo X2.here hx rfl (hb hby d4_11) rfl ((if0 _ _).trans (feq (by decide)).1) k) ?_
    refine Goes.step (B := T2.setTop (mkF m 15 #[.val (.ref a1), .val (.ref a2), .unset] [(.ref a2)])) (fun _ k => XS.aloadN X2.here hx rfl (hb hby d4_14) rfl rfl k) ?_
    obtain ⟨T3, X3, e3, st3⟩ := castY X2 hx hZ hown (hw _ (List.mem_of_getElem? (i := 44) rfl)) e2 (Ins.self E2) (g := (mkF m 15 #[.val (.ref a1), .val (.ref a2), .unset] [(.ref a2)])) rfl rfl (hb hby d4_15)
    refine Goes.step (B := T3.setTop (mkF m 18 #[.val (.ref a1), .val (.ref a2), .unset] [(.ref a2)])) st3 ?_
    refine Goes.step (B := T3.setTop (mkF m 19 #[.val (.ref a1), .val (.ref a2), .val (.ref a2)] [])) (fun _ k => XS.astoreN X3.here hx rfl (hb hby d4_18) rfl rfl (l' := #[.val (.ref a1), .val (.ref a2), .val (.ref a2)]) rfl k) ?_
    obtain ⟨T4, X4, e4, st4⟩ := getS2 X3 hx hZ hown (host := "") (Or.inl (hw _ (List.mem_of_getElem? (i := 45) rfl))) Via.refl e3 Sc (g := (mkF m 19 #[.val (.ref a1), .val (.ref a2), .val (.ref a2)] [])) rfl (hb hby d4_19)
    refine Goes.step (B := T4.setTop (mkF m 22 #[.val (.ref a1), .val (.ref a2), .val (.ref a2)] [(.int cs)])) st4 ?_
    refine Goes.step (B := T4.setTop (mkF m 25 #[.val (.ref a1), .val (.ref a2), .val (.ref a2)] [])) (fun _ k => XS.ifNo X4.here hx rfl (hb hby d4_22) rfl ((if0 _ _).trans (feq hcs).1) k) ?_
    refine Goes.step (B := T4.setTop (mkF m 26 #[.val (.ref a1), .val (.ref a2), .val (.ref a2)] [(.ref a1)])) (fun _ k => XS.aloadN X4.here hx rfl (hb hby d4_25) rfl rfl k) ?_
    obtain ⟨T5, X5, e5, st5⟩ := getF X4 hx hZ hown (host := "") (Or.inl (hw _ (List.mem_of_getElem? (i := 46) rfl))) Via.refl e4 Fc1 (g := (mkF m 26 #[.val (.ref a1), .val (.ref a2), .val (.ref a2)] [(.ref a1)])) rfl rfl (hb hby d4_26)
    refine Goes.step (B := T5.setTop (mkF m 29 #[.val (.ref a1), .val (.ref a2), .val (.ref a2)] [(.int (0 : Int32))])) st5 ?_
    refine Goes.step (B := T5.setTop (mkF m 30 #[.val (.ref a1), .val (.ref a2), .val (.ref a2)] [(.ref a2), (.int (0 : Int32))])) (fun _ k => XS.aloadN X5.here hx rfl (hb hby d4_29) rfl rfl k) ?_
    obtain ⟨T6, X6, e6, st6⟩ := getF X5 hx hZ hown (host := "") (Or.inl (hw _ (List.mem_of_getElem? (i := 46) rfl))) Via.refl e5 Fc2 (g := (mkF m 30 #[.val (.ref a1), .val (.ref a2), .val (.ref a2)] [(.ref a2), (.int (0 : Int32))])) rfl rfl (hb hby d4_30)
    refine Goes.step (B := T6.setTop (mkF m 33 #[.val (.ref a1), .val (.ref a2), .val (.ref a2)] [(.int (0 : Int32)), (.int (0 : Int32))])) st6 ?_
    refine Goes.step (B := T6.setTop (mkF m 36 #[.val (.ref a1), .val (.ref a2), .val (.ref a2)] [])) (fun _ k => XS.icmpNo X6.here hx rfl (hb hby d4_33) rfl (teq (by decide)).2 k) ?_
    refine Goes.step (B := T6.setTop (mkF m 37 #[.val (.ref a1), .val (.ref a2), .val (.ref a2)] [(.ref a1)])) (fun _ k => XS.aloadN X6.here hx rfl (hb hby d4_36) rfl rfl k) ?_
    obtain ⟨T7, X7, e7, st7⟩ := getF X6 hx hZ hown (host := "") (Or.inl (hw _ (List.mem_of_getElem? (i := 47) rfl))) Via.refl e6 Fv1 (g := (mkF m 37 #[.val (.ref a1), .val (.ref a2), .val (.ref a2)] [(.ref a1)])) rfl rfl (hb hby d4_37)
    refine Goes.step (B := T7.setTop (mkF m 40 #[.val (.ref a1), .val (.ref a2), .val (.ref a2)] [(.ref b1)])) st7 ?_
    refine Goes.step (B := T7.setTop (mkF m 41 #[.val (.ref a1), .val (.ref a2), .val (.ref a2)] [(.ref a2), (.ref b1)])) (fun _ k => XS.aloadN X7.here hx rfl (hb hby d4_40) rfl rfl k) ?_
    obtain ⟨T8, X8, e8, st8⟩ := getF X7 hx hZ hown (host := "") (Or.inl (hw _ (List.mem_of_getElem? (i := 47) rfl))) Via.refl e7 Fv2 (g := (mkF m 41 #[.val (.ref a1), .val (.ref a2), .val (.ref a2)] [(.ref a2), (.ref b1)])) rfl rfl (hb hby d4_41)
    refine Goes.step (B := T8.setTop (mkF m 44 #[.val (.ref a1), .val (.ref a2), .val (.ref a2)] [(.ref b2), (.ref b1)])) st8 ?_
    obtain ⟨_, _, ⟨T9, L9, k9, n9⟩, -, X9, ⟨Lc9, hQ9, l9, y9, z9⟩, st9⟩ := Jvm.LawKit.callS X8 hx (y := (⟨"java/lang/StringLatin1", "equals", "([B[B)Z"⟩ : MethodName)) hown (mvT hZ (hw _ (List.mem_of_getElem? (i := 48) rfl))) (mvT hZ (hw _ (List.mem_of_getElem? (i := 49) rfl))) (mvT hZ (hw _ (List.mem_of_getElem? (i := 50) rfl))) (mvT hZ (hw _ (List.mem_of_getElem? (i := 51) rfl))) (by decide) (backOf (W := 0) (rmLq0 l Z a0 hw [] b1 b2 k1 k2 h0 n0 O0 V1 V2) hZ (hw _ (List.mem_of_getElem? (i := 51) rfl)) (hw _ (List.mem_of_getElem? (i := 50) rfl)) (by decide) (by decide)) (g := (mkF m 44 #[.val (.ref a1), .val (.ref a2), .val (.ref a2)] [(.ref b2), (.ref b1)])) rfl (by rw [hml]; rfl) (argsL := [(.ref b1), (.ref b2)]) (rest := []) (lenOf pd_1 rfl) rfl (by show 2 * 0 + _ ≤ _; exact Nat.le_of_eq rfl) (hb hby d4_44) (fun _ _ => ⟨rfl, e8, (by decide : 0 + 0 ≤ _), (by decide : 0 + 0 ≤ _)⟩)
    dsimp only [Pt.U, Pt.locs, Pt.cells, Pt.slots] at X9 l9 y9 z9 st9 hQ9
    subst l9 y9 z9
    obtain ⟨rfl, Nq9, eh9⟩ := hQ9
    have N9 := Fr.app N0 Nq9
    refine Goes.step (B := T9.setTop (mkF m 47 #[.val (.ref a1), .val (.ref a2), .val (.ref a2)] [(.int (1 : Int32))])) st9 ?_
    refine Goes.step (B := T9.setTop (mkF m 50 #[.val (.ref a1), .val (.ref a2), .val (.ref a2)] [])) (fun _ k => XS.ifNo X9.here hx rfl (hb hby d4_47) rfl ((if0 _ _).trans (feq (by decide)).1) k) ?_
    refine Goes.step (B := T9.setTop (mkF m 51 #[.val (.ref a1), .val (.ref a2), .val (.ref a2)] [(.int (1 : Int32))])) (fun _ k => XS.iconst X9.here hx rfl (hb hby d4_50) k) ?_
    refine Goes.step (B := T9.setTop (mkF m 55 #[.val (.ref a1), .val (.ref a2), .val (.ref a2)] [(.int (1 : Int32))])) (fun _ k => XS.goto X9.here hx rfl (pc0 := 51) (pc' := 55) rfl (hb hby d4_51) (by decide) (by decide) k) ?_
    exact Goes.retN X9 hx eh9 (t := .boolean) Bd.returns (by simp) hlk (hb hby d4_55) (by decide) (by decide) (⟨rfl, N9, rfl⟩)
theorem ef_rmLq1 (m : MethodId) (x0 : Addr) (x1 : Addr) : entryFrame m #[(.ref x0), (.ref x1)] 3 = mkF m 0 #[.val (.ref x0), .val (.ref x1), .unset] [] := by first | (simp [entryFrame, mkF, argsToLocals, Value.category]; done) | rfl
def QLq1 (Z : State) (b1 : Addr) (b2 : Addr) (k1 : ClassId) (k2 : ClassId) (h0 : Heap) (n0 : Nat) (v : Option Value) (h : Heap) (L : List Loc) : Prop := v = some (.int (1 : Int32)) ∧ Fr n0 L ∧ h = h0
set_option maxRecDepth 65536 in
set_option maxHeartbeats 40000000 in
theorem rmLq1 (l : Launch) (Z : State) (a0 : Array Value) (hw : ∀ d ∈ tables_1, d.before a0 Z = true) (ws : List Jvm.Cond) (b1 : Addr) (b2 : Addr) (k1 : ClassId) (k2 : ClassId) (h0 : Heap) (n0 : Nat) (O0 : Old Z n0 h0) (V1 : Arv Z h0 b1 k1 .byte (7 : Int32) [.int (66 : Int32), .int (97 : Int32), .int (99 : Int32), .int (107 : Int32), .int (32 : Int32), .int (66 : Int32), .int (87 : Int32)] (.int (0 : Int32))) (V2 : Arv Z h0 b2 k2 .byte (7 : Int32) [.int (66 : Int32), .int (97 : Int32), .int (99 : Int32), .int (107 : Int32), .int (32 : Int32), .int (66 : Int32), .int (87 : Int32)] (.int (0 : Int32))) :
    MetFree l (⟨"java/lang/StringLatin1", "equals", "([B[B)Z"⟩ : MethodName) (head1 (Jvm.Cond.code (⟨"java/lang/StringLatin1", "equals", "([B[B)Z"⟩ : MethodName) jdk_43_method_13_code 3 (some .boolean) :: ws) ({ frames := 0, cells := 0, slots := 0, locals := 0 } : Room)) (fun a U => a = #[(.ref b1), (.ref b2)] ∧ Z.Warmed39 U.vm ∧ U.heap = h0) (fun _ _ _ _ _ => True) (fun _ U o U' => ∃ v L, o = .returned v ∧ QLq1 Z b1 b2 k1 k2 h0 n0 v U'.heap L ∧ FrameEnd U o U' L ({ frames := 0, cells := 0, slots := 0, locals := 0 } : Room).cells ({ frames := 0, cells := 0, slots := 0, locals := 0 } : Room).slots) := by
  refine MetFree.of_bodySF (plainFor_of_name pn_StringLatin1) hisR ?_
  intro p e s m args below meth c s₁ Bd hml0 hP hK
  obtain ⟨rfl, hZ, hh⟩ := hP
  have hx := Bd.exec
  have hby := Bd.bytes
  have hlk : meth.locks = false := BodyLoose.notSynchronized Bd
  have hml : c.maxLocals = 3 := hml0
  have hown : s.vm.findClass "java/lang/StringLatin1" = some m.cls := findClass_of_methodNamed Bd.named
  have hnm := (name_of_methodNamed Bd.named Bd.method).1
  have X0 : Stand p l e ({ frames := 0, cells := 0, slots := 0, locals := 0 } : Room) s m #[(.ref b1), (.ref b2)] below meth c s₁ [] 0 0 := Stand.of_body Bd
  have e0 : s₁.heap = h0 := by rw [← hh, Bd.state]; rfl
  have N0 := Fr.nil n0
  show Goes p e below s (QLq1 Z b1 b2 k1 k2 h0 n0) ({ frames := 0, cells := 0, slots := 0, locals := 0 } : Room).cells ({ frames := 0, cells := 0, slots := 0, locals := 0 } : Room).slots (s₁.setTop (entryFrame m #[(.ref b1), (.ref b2)] 3))
  refine Goes.enter (g' := (mkF m 0 #[.val (.ref b1), .val (.ref b2), .unset] [])) (ef_rmLq1 m b1 b2) ?_
  refine Goes.step (B := s₁.setTop (mkF m 1 #[.val (.ref b1), .val (.ref b2), .unset] [(.ref b1)])) (fun _ k => XS.aloadN X0.here hx rfl (hb hby d5_0) rfl rfl k) ?_
  obtain ⟨c1, Ar1, -, Sz1, Nn1, -, -⟩ := id V1
  have len1 := X0.arraylength hx (by rw [e0]; exact Ar1.1) (State.isArrayOf_alike hZ.alike Ar1.2.1) (g := (mkF m 1 #[.val (.ref b1), .val (.ref b2), .unset] [(.ref b1)])) rfl rfl (hb hby d5_1)
  rw [len_of Sz1 Nn1] at len1
  refine Goes.step (B := s₁.setTop (mkF m 2 #[.val (.ref b1), .val (.ref b2), .unset] [(.int (7 : Int32))])) len1 ?_
  refine Goes.step (B := s₁.setTop (mkF m 3 #[.val (.ref b1), .val (.ref b2), .unset] [(.ref b2), (.int (7 : Int32))])) (fun _ k => XS.aloadN X0.here hx rfl (hb hby d5_2) rfl rfl k) ?_
  obtain ⟨c2, Ar2, -, Sz2, Nn2, -, -⟩ := id V2
  have len2 := X0.arraylength hx (by rw [e0]; exact Ar2.1) (State.isArrayOf_alike hZ.alike Ar2.2.1) (g := (mkF m 3 #[.val (.ref b1), .val (.ref b2), .unset] [(.ref b2), (.int (7 : Int32))])) rfl rfl (hb hby d5_3)
  rw [len_of Sz2 Nn2] at len2
  refine Goes.step (B := s₁.setTop (mkF m 4 #[.val (.ref b1), .val (.ref b2), .unset] [(.int (7 : Int32)), (.int (7 : Int32))])) len2 ?_
  refine Goes.step (B := s₁.setTop (mkF m 7 #[.val (.ref b1), .val (.ref b2), .unset] [])) (fun _ k => XS.icmpNo X0.here hx rfl (hb hby d5_4) rfl (teq (by decide)).2 k) ?_
  refine Goes.step (B := s₁.setTop (mkF m 8 #[.val (.ref b1), .val (.ref b2), .unset] [(.int (0 : Int32))])) (fun _ k => XS.iconst X0.here hx rfl (hb hby d5_7) k) ?_
  refine Goes.step (B := s₁.setTop (mkF m 9 #[.val (.ref b1), .val (.ref b2), .val (.int (0 : Int32))] [])) (fun _ k => XS.istoreN X0.here hx rfl (hb hby d5_8) rfl (l' := #[.val (.ref b1), .val (.ref b2), .val (.int (0 : Int32))]) rfl k) ?_
  refine Goes.step (B := s₁.setTop (mkF m 10 #[.val (.ref b1), .val (.ref b2), .val (.int (0 : Int32))] [(.int (0 : Int32))])) (fun _ k => XS.iloadN X0.here hx rfl (hb hby d5_9) rfl k) ?_
  refine Goes.step (B := s₁.setTop (mkF m 11 #[.val (.ref b1), .val (.ref b2), .val (.int (0 : Int32))] [(.ref b1), (.int (0 : Int32))])) (fun _ k => XS.aloadN X0.here hx rfl (hb hby d5_10) rfl rfl k) ?_
  obtain ⟨c3, Ar3, -, Sz3, Nn3, -, -⟩ := id V1
  have len3 := X0.arraylength hx (by rw [e0]; exact Ar3.1) (State.isArrayOf_alike hZ.alike Ar3.2.1) (g := (mkF m 11 #[.val (.ref b1), .val (.ref b2), .val (.int (0 : Int32))] [(.ref b1), (.int (0 : Int32))])) rfl rfl (hb hby d5_11)
  rw [len_of Sz3 Nn3] at len3
  refine Goes.step (B := s₁.setTop (mkF m 12 #[.val (.ref b1), .val (.ref b2), .val (.int (0 : Int32))] [(.int (7 : Int32)), (.int (0 : Int32))])) len3 ?_
  refine Goes.step (B := s₁.setTop (mkF m 15 #[.val (.ref b1), .val (.ref b2), .val (.int (0 : Int32))] [])) (fun _ k => XS.icmpNo X0.here hx rfl (hb hby d5_12) rfl (tlt (by decide)).2.1 k) ?_
  refine Goes.step (B := s₁.setTop (mkF m 16 #[.val (.ref b1), .val (.ref b2), .val (.int (0 : Int32))] [(.ref b1)])) (fun _ k => XS.aloadN X0.here hx rfl (hb hby d5_15) rfl rfl k) ?_
  refine Goes.step (B := s₁.setTop (mkF m 17 #[.val (.ref b1), .val (.ref b2), .val (.int (0 : Int32))] [(.int (0 : Int32)), (.ref b1)])) (fun _ k => XS.iloadN X0.here hx rfl (hb hby d5_16) rfl k) ?_
  obtain ⟨c4, Ar4, -, Sz4, Nn4, Hs4, -⟩ := id V1
  have hin4 : ¬ ((0 : Int32) < 0 ∨ c4.slots.size ≤ ((0 : Int32)).toNatClampNeg) := inb_of Sz4 ⟨by decide, by decide⟩
  refine Goes.step (B := s₁.setTop (mkF m 18 #[.val (.ref b1), .val (.ref b2), .val (.int (0 : Int32))] [(.int (66 : Int32))])) (X0.baloadBytes hx (j := (0 : Int32)) (v := (.int (66 : Int32))) (by rw [e0]; exact Ar4.1) (State.isArrayOf_alike hZ.alike Ar4.2.1) Ar4.2.2 hin4 (Has.at Hs4 hin4 rfl) (g := (mkF m 17 #[.val (.ref b1), .val (.ref b2), .val (.int (0 : Int32))] [(.int (0 : Int32)), (.ref b1)])) rfl rfl (hb hby d5_17)) ?_
  refine Goes.step (B := s₁.setTop (mkF m 19 #[.val (.ref b1), .val (.ref b2), .val (.int (0 : Int32))] [(.ref b2), (.int (66 : Int32))])) (fun _ k => XS.aloadN X0.here hx rfl (hb hby d5_18) rfl rfl k) ?_
  refine Goes.step (B := s₁.setTop (mkF m 20 #[.val (.ref b1), .val (.ref b2), .val (.int (0 : Int32))] [(.int (0 : Int32)), (.ref b2), (.int (66 : Int32))])) (fun _ k => XS.iloadN X0.here hx rfl (hb hby d5_19) rfl k) ?_
  obtain ⟨c5, Ar5, -, Sz5, Nn5, Hs5, -⟩ := id V2
  have hin5 : ¬ ((0 : Int32) < 0 ∨ c5.slots.size ≤ ((0 : Int32)).toNatClampNeg) := inb_of Sz5 ⟨by decide, by decide⟩
  refine Goes.step (B := s₁.setTop (mkF m 21 #[.val (.ref b1), .val (.ref b2), .val (.int (0 : Int32))] [(.int (66 : Int32)), (.int (66 : Int32))])) (X0.baloadBytes hx (j := (0 : Int32)) (v := (.int (66 : Int32))) (by rw [e0]; exact Ar5.1) (State.isArrayOf_alike hZ.alike Ar5.2.1) Ar5.2.2 hin5 (Has.at Hs5 hin5 rfl) (g := (mkF m 20 #[.val (.ref b1), .val (.ref b2), .val (.int (0 : Int32))] [(.int (0 : Int32)), (.ref b2), (.int (66 : Int32))])) rfl rfl (hb hby d5_20)) ?_
  refine Goes.step (B := s₁.setTop (mkF m 26 #[.val (.ref b1), .val (.ref b2), .val (.int (0 : Int32))] [])) (fun _ k => XS.icmpYes X0.here hx rfl (pc0 := 21) (pc' := 26) rfl (hb hby d5_21) rfl (teq (by decide)).1 (by decide) (by decide) k) ?_
  refine Goes.step (B := s₁.setTop (mkF m 29 #[.val (.ref b1), .val (.ref b2), .val (.int (1 : Int32))] [])) (fun _ k => XS.iinc X0.here hx rfl (hb hby d5_26) rfl (l' := #[.val (.ref b1), .val (.ref b2), .val (.int (1 : Int32))]) rfl k) ?_
  refine Goes.step (B := s₁.setTop (mkF m 9 #[.val (.ref b1), .val (.ref b2), .val (.int (1 : Int32))] [])) (fun _ k => XS.goto X0.here hx rfl (pc0 := 29) (pc' := 9) rfl (hb hby d5_29) (by decide) (by decide) k) ?_
  refine Goes.step (B := s₁.setTop (mkF m 10 #[.val (.ref b1), .val (.ref b2), .val (.int (1 : Int32))] [(.int (1 : Int32))])) (fun _ k => XS.iloadN X0.here hx rfl (hb hby d5_9) rfl k) ?_
  refine Goes.step (B := s₁.setTop (mkF m 11 #[.val (.ref b1), .val (.ref b2), .val (.int (1 : Int32))] [(.ref b1), (.int (1 : Int32))])) (fun _ k => XS.aloadN X0.here hx rfl (hb hby d5_10) rfl rfl k) ?_
  obtain ⟨c6, Ar6, -, Sz6, Nn6, -, -⟩ := id V1
  have len6 := X0.arraylength hx (by rw [e0]; exact Ar6.1) (State.isArrayOf_alike hZ.alike Ar6.2.1) (g := (mkF m 11 #[.val (.ref b1), .val (.ref b2), .val (.int (1 : Int32))] [(.ref b1), (.int (1 : Int32))])) rfl rfl (hb hby d5_11)
  rw [len_of Sz6 Nn6] at len6
  refine Goes.step (B := s₁.setTop (mkF m 12 #[.val (.ref b1), .val (.ref b2), .val (.int (1 : Int32))] [(.int (7 : Int32)), (.int (1 : Int32))])) len6 ?_
  refine Goes.step (B := s₁.setTop (mkF m 15 #[.val (.ref b1), .val (.ref b2), .val (.int (1 : Int32))] [])) (fun _ k => XS.icmpNo X0.here hx rfl (hb hby d5_12) rfl (tlt (by decide)).2.1 k) ?_
  refine Goes.step (B := s₁.setTop (mkF m 16 #[.val (.ref b1), .val (.ref b2), .val (.int (1 : Int32))] [(.ref b1)])) (fun _ k => XS.aloadN X0.here hx rfl (hb hby d5_15) rfl rfl k) ?_
  refine Goes.step (B := s₁.setTop (mkF m 17 #[.val (.ref b1), .val (.ref b2), .val (.int (1 : Int32))] [(.int (1 : Int32)), (.ref b1)])) (fun _ k => XS.iloadN X0.here hx rfl (hb hby d5_16) rfl k) ?_
  obtain ⟨c7, Ar7, -, Sz7, Nn7, Hs7, -⟩ := id V1
  have hin7 : ¬ ((1 : Int32) < 0 ∨ c7.slots.size ≤ ((1 : Int32)).toNatClampNeg) := inb_of Sz7 ⟨by decide, by decide⟩
  refine Goes.step (B := s₁.setTop (mkF m 18 #[.val (.ref b1), .val (.ref b2), .val (.int (1 : Int32))] [(.int (97 : Int32))])) (X0.baloadBytes hx (j := (1 : Int32)) (v := (.int (97 : Int32))) (by rw [e0]; exact Ar7.1) (State.isArrayOf_alike hZ.alike Ar7.2.1) Ar7.2.2 hin7 (Has.at Hs7 hin7 rfl) (g := (mkF m 17 #[.val (.ref b1), .val (.ref b2), .val (.int (1 : Int32))] [(.int (1 : Int32)), (.ref b1)])) rfl rfl (hb hby d5_17)) ?_
  refine Goes.step (B := s₁.setTop (mkF m 19 #[.val (.ref b1), .val (.ref b2), .val (.int (1 : Int32))] [(.ref b2), (.int (97 : Int32))])) (fun _ k => XS.aloadN X0.here hx rfl (hb hby d5_18) rfl rfl k) ?_
  refine Goes.step (B := s₁.setTop (mkF m 20 #[.val (.ref b1), .val (.ref b2), .val (.int (1 : Int32))] [(.int (1 : Int32)), (.ref b2), (.int (97 : Int32))])) (fun _ k => XS.iloadN X0.here hx rfl (hb hby d5_19) rfl k) ?_
  obtain ⟨c8, Ar8, -, Sz8, Nn8, Hs8, -⟩ := id V2
  have hin8 : ¬ ((1 : Int32) < 0 ∨ c8.slots.size ≤ ((1 : Int32)).toNatClampNeg) := inb_of Sz8 ⟨by decide, by decide⟩
  refine Goes.step (B := s₁.setTop (mkF m 21 #[.val (.ref b1), .val (.ref b2), .val (.int (1 : Int32))] [(.int (97 : Int32)), (.int (97 : Int32))])) (X0.baloadBytes hx (j := (1 : Int32)) (v := (.int (97 : Int32))) (by rw [e0]; exact Ar8.1) (State.isArrayOf_alike hZ.alike Ar8.2.1) Ar8.2.2 hin8 (Has.at Hs8 hin8 rfl) (g := (mkF m 20 #[.val (.ref b1), .val (.ref b2), .val (.int (1 : Int32))] [(.int (1 : Int32)), (.ref b2), (.int (97 : Int32))])) rfl rfl (hb hby d5_20)) ?_
  refine Goes.step (B := s₁.setTop (mkF m 26 #[.val (.ref b1), .val (.ref b2), .val (.int (1 : Int32))] [])) (fun _ k => XS.icmpYes X0.here hx rfl (pc0 := 21) (pc' := 26) rfl (hb hby d5_21) rfl (teq (by decide)).1 (by decide) (by decide) k) ?_
  refine Goes.step (B := s₁.setTop (mkF m 29 #[.val (.ref b1), .val (.ref b2), .val (.int (2 : Int32))] [])) (fun _ k => XS.iinc X0.here hx rfl (hb hby d5_26) rfl (l' := #[.val (.ref b1), .val (.ref b2), .val (.int (2 : Int32))]) rfl k) ?_
  refine Goes.step (B := s₁.setTop (mkF m 9 #[.val (.ref b1), .val (.ref b2), .val (.int (2 : Int32))] [])) (fun _ k => XS.goto X0.here hx rfl (pc0 := 29) (pc' := 9) rfl (hb hby d5_29) (by decide) (by decide) k) ?_
  refine Goes.step (B := s₁.setTop (mkF m 10 #[.val (.ref b1), .val (.ref b2), .val (.int (2 : Int32))] [(.int (2 : Int32))])) (fun _ k => XS.iloadN X0.here hx rfl (hb hby d5_9) rfl k) ?_
  refine Goes.step (B := s₁.setTop (mkF m 11 #[.val (.ref b1), .val (.ref b2), .val (.int (2 : Int32))] [(.ref b1), (.int (2 : Int32))])) (fun _ k => XS.aloadN X0.here hx rfl (hb hby d5_10) rfl rfl k) ?_
  obtain ⟨c9, Ar9, -, Sz9, Nn9, -, -⟩ := id V1
  have len9 := X0.arraylength hx (by rw [e0]; exact Ar9.1) (State.isArrayOf_alike hZ.alike Ar9.2.1) (g := (mkF m 11 #[.val (.ref b1), .val (.ref b2), .val (.int (2 : Int32))] [(.ref b1), (.int (2 : Int32))])) rfl rfl (hb hby d5_11)
  rw [len_of Sz9 Nn9] at len9
  refine Goes.step (B := s₁.setTop (mkF m 12 #[.val (.ref b1), .val (.ref b2), .val (.int (2 : Int32))] [(.int (7 : Int32)), (.int (2 : Int32))])) len9 ?_
  refine Goes.step (B := s₁.setTop (mkF m 15 #[.val (.ref b1), .val (.ref b2), .val (.int (2 : Int32))] [])) (fun _ k => XS.icmpNo X0.here hx rfl (hb hby d5_12) rfl (tlt (by decide)).2.1 k) ?_
  refine Goes.step (B := s₁.setTop (mkF m 16 #[.val (.ref b1), .val (.ref b2), .val (.int (2 : Int32))] [(.ref b1)])) (fun _ k => XS.aloadN X0.here hx rfl (hb hby d5_15) rfl rfl k) ?_
  refine Goes.step (B := s₁.setTop (mkF m 17 #[.val (.ref b1), .val (.ref b2), .val (.int (2 : Int32))] [(.int (2 : Int32)), (.ref b1)])) (fun _ k => XS.iloadN X0.here hx rfl (hb hby d5_16) rfl k) ?_
  obtain ⟨c10, Ar10, -, Sz10, Nn10, Hs10, -⟩ := id V1
  have hin10 : ¬ ((2 : Int32) < 0 ∨ c10.slots.size ≤ ((2 : Int32)).toNatClampNeg) := inb_of Sz10 ⟨by decide, by decide⟩
  refine Goes.step (B := s₁.setTop (mkF m 18 #[.val (.ref b1), .val (.ref b2), .val (.int (2 : Int32))] [(.int (99 : Int32))])) (X0.baloadBytes hx (j := (2 : Int32)) (v := (.int (99 : Int32))) (by rw [e0]; exact Ar10.1) (State.isArrayOf_alike hZ.alike Ar10.2.1) Ar10.2.2 hin10 (Has.at Hs10 hin10 rfl) (g := (mkF m 17 #[.val (.ref b1), .val (.ref b2), .val (.int (2 : Int32))] [(.int (2 : Int32)), (.ref b1)])) rfl rfl (hb hby d5_17)) ?_
  refine Goes.step (B := s₁.setTop (mkF m 19 #[.val (.ref b1), .val (.ref b2), .val (.int (2 : Int32))] [(.ref b2), (.int (99 : Int32))])) (fun _ k => XS.aloadN X0.here hx rfl (hb hby d5_18) rfl rfl k) ?_
  refine Goes.step (B := s₁.setTop (mkF m 20 #[.val (.ref b1), .val (.ref b2), .val (.int (2 : Int32))] [(.int (2 : Int32)), (.ref b2), (.int (99 : Int32))])) (fun _ k => XS.iloadN X0.here hx rfl (hb hby d5_19) rfl k) ?_
  obtain ⟨c11, Ar11, -, Sz11, Nn11, Hs11, -⟩ := id V2
  have hin11 : ¬ ((2 : Int32) < 0 ∨ c11.slots.size ≤ ((2 : Int32)).toNatClampNeg) := inb_of Sz11 ⟨by decide, by decide⟩
  refine Goes.step (B := s₁.setTop (mkF m 21 #[.val (.ref b1), .val (.ref b2), .val (.int (2 : Int32))] [(.int (99 : Int32)), (.int (99 : Int32))])) (X0.baloadBytes hx (j := (2 : Int32)) (v := (.int (99 : Int32))) (by rw [e0]; exact Ar11.1) (State.isArrayOf_alike hZ.alike Ar11.2.1) Ar11.2.2 hin11 (Has.at Hs11 hin11 rfl) (g := (mkF m 20 #[.val (.ref b1), .val (.ref b2), .val (.int (2 : Int32))] [(.int (2 : Int32)), (.ref b2), (.int (99 : Int32))])) rfl rfl (hb hby d5_20)) ?_
  refine Goes.step (B := s₁.setTop (mkF m 26 #[.val (.ref b1), .val (.ref b2), .val (.int (2 : Int32))] [])) (fun _ k => XS.icmpYes X0.here hx rfl (pc0 := 21) (pc' := 26) rfl (hb hby d5_21) rfl (teq (by decide)).1 (by decide) (by decide) k) ?_
  refine Goes.step (B := s₁.setTop (mkF m 29 #[.val (.ref b1), .val (.ref b2), .val (.int (3 : Int32))] [])) (fun _ k => XS.iinc X0.here hx rfl (hb hby d5_26) rfl (l' := #[.val (.ref b1), .val (.ref b2), .val (.int (3 : Int32))]) rfl k) ?_
  refine Goes.step (B := s₁.setTop (mkF m 9 #[.val (.ref b1), .val (.ref b2), .val (.int (3 : Int32))] [])) (fun _ k => XS.goto X0.here hx rfl (pc0 := 29) (pc' := 9) rfl (hb hby d5_29) (by decide) (by decide) k) ?_
  refine Goes.step (B := s₁.setTop (mkF m 10 #[.val (.ref b1), .val (.ref b2), .val (.int (3 : Int32))] [(.int (3 : Int32))])) (fun _ k => XS.iloadN X0.here hx rfl (hb hby d5_9) rfl k) ?_
  refine Goes.step (B := s₁.setTop (mkF m 11 #[.val (.ref b1), .val (.ref b2), .val (.int (3 : Int32))] [(.ref b1), (.int (3 : Int32))])) (fun _ k => XS.aloadN X0.here hx rfl (hb hby d5_10) rfl rfl k) ?_
  obtain ⟨c12, Ar12, -, Sz12, Nn12, -, -⟩ := id V1
  have len12 := X0.arraylength hx (by rw [e0]; exact Ar12.1) (State.isArrayOf_alike hZ.alike Ar12.2.1) (g := (mkF m 11 #[.val (.ref b1), .val (.ref b2), .val (.int (3 : Int32))] [(.ref b1), (.int (3 : Int32))])) rfl rfl (hb hby d5_11)
  rw [len_of Sz12 Nn12] at len12
  refine Goes.step (B := s₁.setTop (mkF m 12 #[.val (.ref b1), .val (.ref b2), .val (.int (3 : Int32))] [(.int (7 : Int32)), (.int (3 : Int32))])) len12 ?_
  refine Goes.step (B := s₁.setTop (mkF m 15 #[.val (.ref b1), .val (.ref b2), .val (.int (3 : Int32))] [])) (fun _ k => XS.icmpNo X0.here hx rfl (hb hby d5_12) rfl (tlt (by decide)).2.1 k) ?_
  refine Goes.step (B := s₁.setTop (mkF m 16 #[.val (.ref b1), .val (.ref b2), .val (.int (3 : Int32))] [(.ref b1)])) (fun _ k => XS.aloadN X0.here hx rfl (hb hby d5_15) rfl rfl k) ?_
  refine Goes.step (B := s₁.setTop (mkF m 17 #[.val (.ref b1), .val (.ref b2), .val (.int (3 : Int32))] [(.int (3 : Int32)), (.ref b1)])) (fun _ k => XS.iloadN X0.here hx rfl (hb hby d5_16) rfl k) ?_
  obtain ⟨c13, Ar13, -, Sz13, Nn13, Hs13, -⟩ := id V1
  have hin13 : ¬ ((3 : Int32) < 0 ∨ c13.slots.size ≤ ((3 : Int32)).toNatClampNeg) := inb_of Sz13 ⟨by decide, by decide⟩
  refine Goes.step (B := s₁.setTop (mkF m 18 #[.val (.ref b1), .val (.ref b2), .val (.int (3 : Int32))] [(.int (107 : Int32))])) (X0.baloadBytes hx (j := (3 : Int32)) (v := (.int (107 : Int32))) (by rw [e0]; exact Ar13.1) (State.isArrayOf_alike hZ.alike Ar13.2.1) Ar13.2.2 hin13 (Has.at Hs13 hin13 rfl) (g := (mkF m 17 #[.val (.ref b1), .val (.ref b2), .val (.int (3 : Int32))] [(.int (3 : Int32)), (.ref b1)])) rfl rfl (hb hby d5_17)) ?_
  refine Goes.step (B := s₁.setTop (mkF m 19 #[.val (.ref b1), .val (.ref b2), .val (.int (3 : Int32))] [(.ref b2), (.int (107 : Int32))])) (fun _ k => XS.aloadN X0.here hx rfl (hb hby d5_18) rfl rfl k) ?_
  refine Goes.step (B := s₁.setTop (mkF m 20 #[.val (.ref b1), .val (.ref b2), .val (.int (3 : Int32))] [(.int (3 : Int32)), (.ref b2), (.int (107 : Int32))])) (fun _ k => XS.iloadN X0.here hx rfl (hb hby d5_19) rfl k) ?_
  obtain ⟨c14, Ar14, -, Sz14, Nn14, Hs14, -⟩ := id V2
  have hin14 : ¬ ((3 : Int32) < 0 ∨ c14.slots.size ≤ ((3 : Int32)).toNatClampNeg) := inb_of Sz14 ⟨by decide, by decide⟩
  refine Goes.step (B := s₁.setTop (mkF m 21 #[.val (.ref b1), .val (.ref b2), .val (.int (3 : Int32))] [(.int (107 : Int32)), (.int (107 : Int32))])) (X0.baloadBytes hx (j := (3 : Int32)) (v := (.int (107 : Int32))) (by rw [e0]; exact Ar14.1) (State.isArrayOf_alike hZ.alike Ar14.2.1) Ar14.2.2 hin14 (Has.at Hs14 hin14 rfl) (g := (mkF m 20 #[.val (.ref b1), .val (.ref b2), .val (.int (3 : Int32))] [(.int (3 : Int32)), (.ref b2), (.int (107 : Int32))])) rfl rfl (hb hby d5_20)) ?_
  refine Goes.step (B := s₁.setTop (mkF m 26 #[.val (.ref b1), .val (.ref b2), .val (.int (3 : Int32))] [])) (fun _ k => XS.icmpYes X0.here hx rfl (pc0 := 21) (pc' := 26) rfl (hb hby d5_21) rfl (teq (by decide)).1 (by decide) (by decide) k) ?_
  refine Goes.step (B := s₁.setTop (mkF m 29 #[.val (.ref b1), .val (.ref b2), .val (.int (4 : Int32))] [])) (fun _ k => XS.iinc X0.here hx rfl (hb hby d5_26) rfl (l' := #[.val (.ref b1), .val (.ref b2), .val (.int (4 : Int32))]) rfl k) ?_
  refine Goes.step (B := s₁.setTop (mkF m 9 #[.val (.ref b1), .val (.ref b2), .val (.int (4 : Int32))] [])) (fun _ k => XS.goto X0.here hx rfl (pc0 := 29) (pc' := 9) rfl (hb hby d5_29) (by decide) (by decide) k) ?_
  refine Goes.step (B := s₁.setTop (mkF m 10 #[.val (.ref b1), .val (.ref b2), .val (.int (4 : Int32))] [(.int (4 : Int32))])) (fun _ k => XS.iloadN X0.here hx rfl (hb hby d5_9) rfl k) ?_
  refine Goes.step (B := s₁.setTop (mkF m 11 #[.val (.ref b1), .val (.ref b2), .val (.int (4 : Int32))] [(.ref b1), (.int (4 : Int32))])) (fun _ k => XS.aloadN X0.here hx rfl (hb hby d5_10) rfl rfl k) ?_
  obtain ⟨c15, Ar15, -, Sz15, Nn15, -, -⟩ := id V1
  have len15 := X0.arraylength hx (by rw [e0]; exact Ar15.1) (State.isArrayOf_alike hZ.alike Ar15.2.1) (g := (mkF m 11 #[.val (.ref b1), .val (.ref b2), .val (.int (4 : Int32))] [(.ref b1), (.int (4 : Int32))])) rfl rfl (hb hby d5_11)
  rw [len_of Sz15 Nn15] at len15
  refine Goes.step (B := s₁.setTop (mkF m 12 #[.val (.ref b1), .val (.ref b2), .val (.int (4 : Int32))] [(.int (7 : Int32)), (.int (4 : Int32))])) len15 ?_
  refine Goes.step (B := s₁.setTop (mkF m 15 #[.val (.ref b1), .val (.ref b2), .val (.int (4 : Int32))] [])) (fun _ k => XS.icmpNo X0.here hx rfl (hb hby d5_12) rfl (tlt (by decide)).2.1 k) ?_
  refine Goes.step (B := s₁.setTop (mkF m 16 #[.val (.ref b1), .val (.ref b2), .val (.int (4 : Int32))] [(.ref b1)])) (fun _ k => XS.aloadN X0.here hx rfl (hb hby d5_15) rfl rfl k) ?_
  refine Goes.step (B := s₁.setTop (mkF m 17 #[.val (.ref b1), .val (.ref b2), .val (.int (4 : Int32))] [(.int (4 : Int32)), (.ref b1)])) (fun _ k => XS.iloadN X0.here hx rfl (hb hby d5_16) rfl k) ?_
  obtain ⟨c16, Ar16, -, Sz16, Nn16, Hs16, -⟩ := id V1
  have hin16 : ¬ ((4 : Int32) < 0 ∨ c16.slots.size ≤ ((4 : Int32)).toNatClampNeg) := inb_of Sz16 ⟨by decide, by decide⟩
  refine Goes.step (B := s₁.setTop (mkF m 18 #[.val (.ref b1), .val (.ref b2), .val (.int (4 : Int32))] [(.int (32 : Int32))])) (X0.baloadBytes hx (j := (4 : Int32)) (v := (.int (32 : Int32))) (by rw [e0]; exact Ar16.1) (State.isArrayOf_alike hZ.alike Ar16.2.1) Ar16.2.2 hin16 (Has.at Hs16 hin16 rfl) (g := (mkF m 17 #[.val (.ref b1), .val (.ref b2), .val (.int (4 : Int32))] [(.int (4 : Int32)), (.ref b1)])) rfl rfl (hb hby d5_17)) ?_
  refine Goes.step (B := s₁.setTop (mkF m 19 #[.val (.ref b1), .val (.ref b2), .val (.int (4 : Int32))] [(.ref b2), (.int (32 : Int32))])) (fun _ k => XS.aloadN X0.here hx rfl (hb hby d5_18) rfl rfl k) ?_
  refine Goes.step (B := s₁.setTop (mkF m 20 #[.val (.ref b1), .val (.ref b2), .val (.int (4 : Int32))] [(.int (4 : Int32)), (.ref b2), (.int (32 : Int32))])) (fun _ k => XS.iloadN X0.here hx rfl (hb hby d5_19) rfl k) ?_
  obtain ⟨c17, Ar17, -, Sz17, Nn17, Hs17, -⟩ := id V2
  have hin17 : ¬ ((4 : Int32) < 0 ∨ c17.slots.size ≤ ((4 : Int32)).toNatClampNeg) := inb_of Sz17 ⟨by decide, by decide⟩
  refine Goes.step (B := s₁.setTop (mkF m 21 #[.val (.ref b1), .val (.ref b2), .val (.int (4 : Int32))] [(.int (32 : Int32)), (.int (32 : Int32))])) (X0.baloadBytes hx (j := (4 : Int32)) (v := (.int (32 : Int32))) (by rw [e0]; exact Ar17.1) (State.isArrayOf_alike hZ.alike Ar17.2.1) Ar17.2.2 hin17 (Has.at Hs17 hin17 rfl) (g := (mkF m 20 #[.val (.ref b1), .val (.ref b2), .val (.int (4 : Int32))] [(.int (4 : Int32)), (.ref b2), (.int (32 : Int32))])) rfl rfl (hb hby d5_20)) ?_
  refine Goes.step (B := s₁.setTop (mkF m 26 #[.val (.ref b1), .val (.ref b2), .val (.int (4 : Int32))] [])) (fun _ k => XS.icmpYes X0.here hx rfl (pc0 := 21) (pc' := 26) rfl (hb hby d5_21) rfl (teq (by decide)).1 (by decide) (by decide) k) ?_
  refine Goes.step (B := s₁.setTop (mkF m 29 #[.val (.ref b1), .val (.ref b2), .val (.int (5 : Int32))] [])) (fun _ k => XS.iinc X0.here hx rfl (hb hby d5_26) rfl (l' := #[.val (.ref b1), .val (.ref b2), .val (.int (5 : Int32))]) rfl k) ?_
  refine Goes.step (B := s₁.setTop (mkF m 9 #[.val (.ref b1), .val (.ref b2), .val (.int (5 : Int32))] [])) (fun _ k => XS.goto X0.here hx rfl (pc0 := 29) (pc' := 9) rfl (hb hby d5_29) (by decide) (by decide) k) ?_
  refine Goes.step (B := s₁.setTop (mkF m 10 #[.val (.ref b1), .val (.ref b2), .val (.int (5 : Int32))] [(.int (5 : Int32))])) (fun _ k => XS.iloadN X0.here hx rfl (hb hby d5_9) rfl k) ?_
  refine Goes.step (B := s₁.setTop (mkF m 11 #[.val (.ref b1), .val (.ref b2), .val (.int (5 : Int32))] [(.ref b1), (.int (5 : Int32))])) (fun _ k => XS.aloadN X0.here hx rfl (hb hby d5_10) rfl rfl k) ?_
  obtain ⟨c18, Ar18, -, Sz18, Nn18, -, -⟩ := id V1
  have len18 := X0.arraylength hx (by rw [e0]; exact Ar18.1) (State.isArrayOf_alike hZ.alike Ar18.2.1) (g := (mkF m 11 #[.val (.ref b1), .val (.ref b2), .val (.int (5 : Int32))] [(.ref b1), (.int (5 : Int32))])) rfl rfl (hb hby d5_11)
  rw [len_of Sz18 Nn18] at len18
  refine Goes.step (B := s₁.setTop (mkF m 12 #[.val (.ref b1), .val (.ref b2), .val (.int (5 : Int32))] [(.int (7 : Int32)), (.int (5 : Int32))])) len18 ?_
  refine Goes.step (B := s₁.setTop (mkF m 15 #[.val (.ref b1), .val (.ref b2), .val (.int (5 : Int32))] [])) (fun _ k => XS.icmpNo X0.here hx rfl (hb hby d5_12) rfl (tlt (by decide)).2.1 k) ?_
  refine Goes.step (B := s₁.setTop (mkF m 16 #[.val (.ref b1), .val (.ref b2), .val (.int (5 : Int32))] [(.ref b1)])) (fun _ k => XS.aloadN X0.here hx rfl (hb hby d5_15) rfl rfl k) ?_
  refine Goes.step (B := s₁.setTop (mkF m 17 #[.val (.ref b1), .val (.ref b2), .val (.int (5 : Int32))] [(.int (5 : Int32)), (.ref b1)])) (fun _ k => XS.iloadN X0.here hx rfl (hb hby d5_16) rfl k) ?_
  obtain ⟨c19, Ar19, -, Sz19, Nn19, Hs19, -⟩ := id V1
  have hin19 : ¬ ((5 : Int32) < 0 ∨ c19.slots.size ≤ ((5 : Int32)).toNatClampNeg) := inb_of Sz19 ⟨by decide, by decide⟩
  refine Goes.step (B := s₁.setTop (mkF m 18 #[.val (.ref b1), .val (.ref b2), .val (.int (5 : Int32))] [(.int (66 : Int32))])) (X0.baloadBytes hx (j := (5 : Int32)) (v := (.int (66 : Int32))) (by rw [e0]; exact Ar19.1) (State.isArrayOf_alike hZ.alike Ar19.2.1) Ar19.2.2 hin19 (Has.at Hs19 hin19 rfl) (g := (mkF m 17 #[.val (.ref b1), .val (.ref b2), .val (.int (5 : Int32))] [(.int (5 : Int32)), (.ref b1)])) rfl rfl (hb hby d5_17)) ?_
  refine Goes.step (B := s₁.setTop (mkF m 19 #[.val (.ref b1), .val (.ref b2), .val (.int (5 : Int32))] [(.ref b2), (.int (66 : Int32))])) (fun _ k => XS.aloadN X0.here hx rfl (hb hby d5_18) rfl rfl k) ?_
  refine Goes.step (B := s₁.setTop (mkF m 20 #[.val (.ref b1), .val (.ref b2), .val (.int (5 : Int32))] [(.int (5 : Int32)), (.ref b2), (.int (66 : Int32))])) (fun _ k => XS.iloadN X0.here hx rfl (hb hby d5_19) rfl k) ?_
  obtain ⟨c20, Ar20, -, Sz20, Nn20, Hs20, -⟩ := id V2
  have hin20 : ¬ ((5 : Int32) < 0 ∨ c20.slots.size ≤ ((5 : Int32)).toNatClampNeg) := inb_of Sz20 ⟨by decide, by decide⟩
  refine Goes.step (B := s₁.setTop (mkF m 21 #[.val (.ref b1), .val (.ref b2), .val (.int (5 : Int32))] [(.int (66 : Int32)), (.int (66 : Int32))])) (X0.baloadBytes hx (j := (5 : Int32)) (v := (.int (66 : Int32))) (by rw [e0]; exact Ar20.1) (State.isArrayOf_alike hZ.alike Ar20.2.1) Ar20.2.2 hin20 (Has.at Hs20 hin20 rfl) (g := (mkF m 20 #[.val (.ref b1), .val (.ref b2), .val (.int (5 : Int32))] [(.int (5 : Int32)), (.ref b2), (.int (66 : Int32))])) rfl rfl (hb hby d5_20)) ?_
  refine Goes.step (B := s₁.setTop (mkF m 26 #[.val (.ref b1), .val (.ref b2), .val (.int (5 : Int32))] [])) (fun _ k => XS.icmpYes X0.here hx rfl (pc0 := 21) (pc' := 26) rfl (hb hby d5_21) rfl (teq (by decide)).1 (by decide) (by decide) k) ?_
  refine Goes.step (B := s₁.setTop (mkF m 29 #[.val (.ref b1), .val (.ref b2), .val (.int (6 : Int32))] [])) (fun _ k => XS.iinc X0.here hx rfl (hb hby d5_26) rfl (l' := #[.val (.ref b1), .val (.ref b2), .val (.int (6 : Int32))]) rfl k) ?_
  refine Goes.step (B := s₁.setTop (mkF m 9 #[.val (.ref b1), .val (.ref b2), .val (.int (6 : Int32))] [])) (fun _ k => XS.goto X0.here hx rfl (pc0 := 29) (pc' := 9) rfl (hb hby d5_29) (by decide) (by decide) k) ?_
  refine Goes.step (B := s₁.setTop (mkF m 10 #[.val (.ref b1), .val (.ref b2), .val (.int (6 : Int32))] [(.int (6 : Int32))])) (fun _ k => XS.iloadN X0.here hx rfl (hb hby d5_9) rfl k) ?_
  refine Goes.step (B := s₁.setTop (mkF m 11 #[.val (.ref b1), .val (.ref b2), .val (.int (6 : Int32))] [(.ref b1), (.int (6 : Int32))])) (fun _ k => XS.aloadN X0.here hx rfl (hb hby d5_10) rfl rfl k) ?_
  obtain ⟨c21, Ar21, -, Sz21, Nn21, -, -⟩ := id V1
  have len21 := X0.arraylength hx (by rw [e0]; exact Ar21.1) (State.isArrayOf_alike hZ.alike Ar21.2.1) (g := (mkF m 11 #[.val (.ref b1), .val (.ref b2), .val (.int (6 : Int32))] [(.ref b1), (.int (6 : Int32))])) rfl rfl (hb hby d5_11)
  rw [len_of Sz21 Nn21] at len21
  refine Goes.step (B := s₁.setTop (mkF m 12 #[.val (.ref b1), .val (.ref b2), .val (.int (6 : Int32))] [(.int (7 : Int32)), (.int (6 : Int32))])) len21 ?_
  refine Goes.step (B := s₁.setTop (mkF m 15 #[.val (.ref b1), .val (.ref b2), .val (.int (6 : Int32))] [])) (fun _ k => XS.icmpNo X0.here hx rfl (hb hby d5_12) rfl (tlt (by decide)).2.1 k) ?_
  refine Goes.step (B := s₁.setTop (mkF m 16 #[.val (.ref b1), .val (.ref b2), .val (.int (6 : Int32))] [(.ref b1)])) (fun _ k => XS.aloadN X0.here hx rfl (hb hby d5_15) rfl rfl k) ?_
  refine Goes.step (B := s₁.setTop (mkF m 17 #[.val (.ref b1), .val (.ref b2), .val (.int (6 : Int32))] [(.int (6 : Int32)), (.ref b1)])) (fun _ k => XS.iloadN X0.here hx rfl (hb hby d5_16) rfl k) ?_
  obtain ⟨c22, Ar22, -, Sz22, Nn22, Hs22, -⟩ := id V1
  have hin22 : ¬ ((6 : Int32) < 0 ∨ c22.slots.size ≤ ((6 : Int32)).toNatClampNeg) := inb_of Sz22 ⟨by decide, by decide⟩
  refine Goes.step (B := s₁.setTop (mkF m 18 #[.val (.ref b1), .val (.ref b2), .val (.int (6 : Int32))] [(.int (87 : Int32))])) (X0.baloadBytes hx (j := (6 : Int32)) (v := (.int (87 : Int32))) (by rw [e0]; exact Ar22.1) (State.isArrayOf_alike hZ.alike Ar22.2.1) Ar22.2.2 hin22 (Has.at Hs22 hin22 rfl) (g := (mkF m 17 #[.val (.ref b1), .val (.ref b2), .val (.int (6 : Int32))] [(.int (6 : Int32)), (.ref b1)])) rfl rfl (hb hby d5_17)) ?_
  refine Goes.step (B := s₁.setTop (mkF m 19 #[.val (.ref b1), .val (.ref b2), .val (.int (6 : Int32))] [(.ref b2), (.int (87 : Int32))])) (fun _ k => XS.aloadN X0.here hx rfl (hb hby d5_18) rfl rfl k) ?_
  refine Goes.step (B := s₁.setTop (mkF m 20 #[.val (.ref b1), .val (.ref b2), .val (.int (6 : Int32))] [(.int (6 : Int32)), (.ref b2), (.int (87 : Int32))])) (fun _ k => XS.iloadN X0.here hx rfl (hb hby d5_19) rfl k) ?_
  obtain ⟨c23, Ar23, -, Sz23, Nn23, Hs23, -⟩ := id V2
  have hin23 : ¬ ((6 : Int32) < 0 ∨ c23.slots.size ≤ ((6 : Int32)).toNatClampNeg) := inb_of Sz23 ⟨by decide, by decide⟩
  refine Goes.step (B := s₁.setTop (mkF m 21 #[.val (.ref b1), .val (.ref b2), .val (.int (6 : Int32))] [(.int (87 : Int32)), (.int (87 : Int32))])) (X0.baloadBytes hx (j := (6 : Int32)) (v := (.int (87 : Int32))) (by rw [e0]; exact Ar23.1) (State.isArrayOf_alike hZ.alike Ar23.2.1) Ar23.2.2 hin23 (Has.at Hs23 hin23 rfl) (g := (mkF m 20 #[.val (.ref b1), .val (.ref b2), .val (.int (6 : Int32))] [(.int (6 : Int32)), (.ref b2), (.int (87 : Int32))])) rfl rfl (hb hby d5_20)) ?_
  refine Goes.step (B := s₁.setTop (mkF m 26 #[.val (.ref b1), .val (.ref b2), .val (.int (6 : Int32))] [])) (fun _ k => XS.icmpYes X0.here hx rfl (pc0 := 21) (pc' := 26) rfl (hb hby d5_21) rfl (teq (by decide)).1 (by decide) (by decide) k) ?_
  refine Goes.step (B := s₁.setTop (mkF m 29 #[.val (.ref b1), .val (.ref b2), .val (.int (7 : Int32))] [])) (fun _ k => XS.iinc X0.here hx rfl (hb hby d5_26) rfl (l' := #[.val (.ref b1), .val (.ref b2), .val (.int (7 : Int32))]) rfl k) ?_
  refine Goes.step (B := s₁.setTop (mkF m 9 #[.val (.ref b1), .val (.ref b2), .val (.int (7 : Int32))] [])) (fun _ k => XS.goto X0.here hx rfl (pc0 := 29) (pc' := 9) rfl (hb hby d5_29) (by decide) (by decide) k) ?_
  refine Goes.step (B := s₁.setTop (mkF m 10 #[.val (.ref b1), .val (.ref b2), .val (.int (7 : Int32))] [(.int (7 : Int32))])) (fun _ k => XS.iloadN X0.here hx rfl (hb hby d5_9) rfl k) ?_
  refine Goes.step (B := s₁.setTop (mkF m 11 #[.val (.ref b1), .val (.ref b2), .val (.int (7 : Int32))] [(.ref b1), (.int (7 : Int32))])) (fun _ k => XS.aloadN X0.here hx rfl (hb hby d5_10) rfl rfl k) ?_
  obtain ⟨c24, Ar24, -, Sz24, Nn24, -, -⟩ := id V1
  have len24 := X0.arraylength hx (by rw [e0]; exact Ar24.1) (State.isArrayOf_alike hZ.alike Ar24.2.1) (g := (mkF m 11 #[.val (.ref b1), .val (.ref b2), .val (.int (7 : Int32))] [(.ref b1), (.int (7 : Int32))])) rfl rfl (hb hby d5_11)
  rw [len_of Sz24 Nn24] at len24
  refine Goes.step (B := s₁.setTop (mkF m 12 #[.val (.ref b1), .val (.ref b2), .val (.int (7 : Int32))] [(.int (7 : Int32)), (.int (7 : Int32))])) len24 ?_
  refine Goes.step (B := s₁.setTop (mkF m 32 #[.val (.ref b1), .val (.ref b2), .val (.int (7 : Int32))] [])) (fun _ k => XS.icmpYes X0.here hx rfl (pc0 := 12) (pc' := 32) rfl (hb hby d5_12) rfl (flt (by decide)).2.1 (by decide) (by decide) k) ?_
  refine Goes.step (B := s₁.setTop (mkF m 33 #[.val (.ref b1), .val (.ref b2), .val (.int (7 : Int32))] [(.int (1 : Int32))])) (fun _ k => XS.iconst X0.here hx rfl (hb hby d5_32) k) ?_
  exact Goes.retN X0 hx e0 (t := .boolean) Bd.returns (by simp) hlk (hb hby d5_33) (by decide) (by decide) (⟨rfl, N0, rfl⟩)
theorem ef_rmEq1 (m : MethodId) (x0 : Addr) (x1 : Addr) : entryFrame m #[(.ref x0), (.ref x1)] 3 = mkF m 0 #[.val (.ref x0), .val (.ref x1), .unset] [] := by first | (simp [entryFrame, mkF, argsToLocals, Value.category]; done) | rfl
def QEq1 (Z : State) (a1 : Addr) (a2 : Addr) (b1 : Addr) (b2 : Addr) (k1 : ClassId) (k2 : ClassId) (cs : Int32) (h0 : Heap) (n0 : Nat) (v : Option Value) (h : Heap) (L : List Loc) : Prop := v = some (.int (1 : Int32)) ∧ Fr n0 L ∧ h = h0
set_option maxRecDepth 65536 in
set_option maxHeartbeats 40000000 in
theorem rmEq1 (l : Launch) (Z : State) (a0 : Array Value) (hw : ∀ d ∈ tables_1, d.before a0 Z = true) (ws : List Jvm.Cond) (a1 : Addr) (a2 : Addr) (b1 : Addr) (b2 : Addr) (k1 : ClassId) (k2 : ClassId) (cs : Int32) (h0 : Heap) (n0 : Nat) (O0 : Old Z n0 h0) (Sc : Sta Z h0 "java/lang/String" "COMPACT_STRINGS" "Z" (.int cs)) (hcs : ¬ cs = (0 : Int32)) (E2 : Exa Z h0 a2 "java/lang/String") (Fc1 : Fld Z h0 a1 "java/lang/String" "coder" "B" (.int (0 : Int32))) (Fv1 : Fld Z h0 a1 "java/lang/String" "value" "[B" (.ref b1)) (V1 : Arv Z h0 b1 k1 .byte (7 : Int32) [.int (66 : Int32), .int (97 : Int32), .int (99 : Int32), .int (107 : Int32), .int (32 : Int32), .int (66 : Int32), .int (87 : Int32)] (.int (0 : Int32))) (Fc2 : Fld Z h0 a2 "java/lang/String" "coder" "B" (.int (0 : Int32))) (Fv2 : Fld Z h0 a2 "java/lang/String" "value" "[B" (.ref b2)) (V2 : Arv Z h0 b2 k2 .byte (7 : Int32) [.int (66 : Int32), .int (97 : Int32), .int (99 : Int32), .int (107 : Int32), .int (32 : Int32), .int (66 : Int32), .int (87 : Int32)] (.int (0 : Int32))) :
    MetFree l (⟨"java/lang/String", "equals", "(Ljava/lang/Object;)Z"⟩ : MethodName) (head1 (Jvm.Cond.code (⟨"java/lang/String", "equals", "(Ljava/lang/Object;)Z"⟩ : MethodName) jdk_42_method_66_code 3 (some .boolean) :: ws) ({ frames := 1, cells := 0, slots := 0, locals := 14 } : Room)) (fun a U => a = #[(.ref a1), (.ref a2)] ∧ Z.Warmed39 U.vm ∧ U.heap = h0) (fun _ _ _ _ _ => True) (fun _ U o U' => ∃ v L, o = .returned v ∧ QEq1 Z a1 a2 b1 b2 k1 k2 cs h0 n0 v U'.heap L ∧ FrameEnd U o U' L ({ frames := 1, cells := 0, slots := 0, locals := 14 } : Room).cells ({ frames := 1, cells := 0, slots := 0, locals := 14 } : Room).slots) := by
  refine MetFree.of_bodySF (plainFor_of_name pn_String) hisR ?_
  intro p e s m args below meth c s₁ Bd hml0 hP hK
  obtain ⟨rfl, hZ, hh⟩ := hP
  have hx := Bd.exec
  have hby := Bd.bytes
  have hlk : meth.locks = false := BodyLoose.notSynchronized Bd
  have hml : c.maxLocals = 3 := hml0
  have hown : s.vm.findClass "java/lang/String" = some m.cls := findClass_of_methodNamed Bd.named
  have hnm := (name_of_methodNamed Bd.named Bd.method).1
  have X0 : Stand p l e ({ frames := 1, cells := 0, slots := 0, locals := 14 } : Room) s m #[(.ref a1), (.ref a2)] below meth c s₁ [] 0 0 := Stand.of_body Bd
  have e0 : s₁.heap = h0 := by rw [← hh, Bd.state]; rfl
  have N0 := Fr.nil n0
  show Goes p e below s (QEq1 Z a1 a2 b1 b2 k1 k2 cs h0 n0) ({ frames := 1, cells := 0, slots := 0, locals := 14 } : Room).cells ({ frames := 1, cells := 0, slots := 0, locals := 14 } : Room).slots (s₁.setTop (entryFrame m #[(.ref a1), (.ref a2)] 3))
  refine Goes.enter (g' := (mkF m 0 #[.val (.ref a1), .val (.ref a2), .unset] [])) (ef_rmEq1 m a1 a2) ?_
  refine Goes.step (B := s₁.setTop (mkF m 1 #[.val (.ref a1), .val (.ref a2), .unset] [(.ref a1)])) (fun _ k => XS.aloadN X0.here hx rfl (hb hby d4_0) rfl rfl k) ?_
  refine Goes.step (B := s₁.setTop (mkF m 2 #[.val (.ref a1), .val (.ref a2), .unset] [(.ref a2), (.ref a1)])) (fun _ k => XS.aloadN X0.here hx rfl (hb hby d4_1) rfl rfl k) ?_
  by_cases hc2_0 : a1 = a2
  · refine Goes.step (B := s₁.setTop (mkF m 5 #[.val (.ref a1), .val (.ref a2), .unset] [])) (fun _ k => Jvm.RoadKit.acmp (g := (mkF m 2 #[.val (.ref a1), .val (.ref a2), .unset] [(.ref a2), (.ref a1)])) X0 hx rfl rfl rfl (pc0 := 2) (pc' := 5) (same := true) rfl (hb hby d4_2) rfl (decide_eq_true (congrArg Value.ref hc2_0)) (by decide) (by decide) k) ?_
    refine Goes.step (B := s₁.setTop (mkF m 6 #[.val (.ref a1), .val (.ref a2), .unset] [(.int (1 : Int32))])) (fun _ k => XS.iconst X0.here hx rfl (hb hby d4_5) k) ?_
    exact Goes.retN X0 hx e0 (t := .boolean) Bd.returns (by simp) hlk (hb hby d4_6) (by decide) (by decide) (⟨rfl, N0, rfl⟩)
  · refine Goes.step (B := s₁.setTop (mkF m 7 #[.val (.ref a1), .val (.ref a2), .unset] [])) (fun _ k => Jvm.RoadKit.acmp (g := (mkF m 2 #[.val (.ref a1), .val (.ref a2), .unset] [(.ref a2), (.ref a1)])) X0 hx rfl rfl rfl (pc0 := 2) (pc' := 7) (same := false) rfl (hb hby d4_2) rfl (decide_eq_false fun q => hc2_0 (Value.ref.inj q)) (by decide) (by decide) k) ?_
    refine Goes.step (B := s₁.setTop (mkF m 8 #[.val (.ref a1), .val (.ref a2), .unset] [(.ref a2)])) (fun _ k => XS.aloadN X0.here hx rfl (hb hby d4_7) rfl rfl k) ?_
    obtain ⟨T2, X2, e2, st2⟩ := instY X0 hx hZ hown (hw _ (List.mem_of_getElem? (i := 44) rfl)) e0 (Ins.self E2) (g := (mkF m 8 #[.val (.ref a1), .val (.ref a2), .unset] [(.ref a2)])) rfl rfl (hb hby d4_8)
    refine Goes.step (B := T2.setTop (mkF m 11 #[.val (.ref a1), .val (.ref a2), .unset] [(.int (1 : Int32))])) st2 ?_
    refine Goes.step (B := T2.setTop (mkF m 14 #[.val (.ref a1), .val (.ref a2), .unset] [])) (fun _ k => XS.ifNo X2.here hx rfl (hb hby d4_11) rfl ((if0 _ _).trans (feq (by decide)).1) k) ?_
    refine Goes.step (B := T2.setTop (mkF m 15 #[.val (.ref a1), .val (.ref a2), .unset] [(.ref a2)])) (fun _ k => XS.aloadN X2.here hx rfl (hb hby d4_14) rfl rfl k) ?_
    obtain ⟨T3, X3, e3, st3⟩ := castY X2 hx hZ hown (hw _ (List.mem_of_getElem? (i := 44) rfl)) e2 (Ins.self E2) (g := (mkF m 15 #[.val (.ref a1), .val (.ref a2), .unset] [(.ref a2)])) rfl rfl (hb hby d4_15)
    refine Goes.step (B := T3.setTop (mkF m 18 #[.val (.ref a1), .val (.ref a2), .unset] [(.ref a2)])) st3 ?_
    refine Goes.step (B := T3.setTop (mkF m 19 #[.val (.ref a1), .val (.ref a2), .val (.ref a2)] [])) (fun _ k => XS.astoreN X3.here hx rfl (hb hby d4_18) rfl rfl (l' := #[.val (.ref a1), .val (.ref a2), .val (.ref a2)]) rfl k) ?_
    obtain ⟨T4, X4, e4, st4⟩ := getS2 X3 hx hZ hown (host := "") (Or.inl (hw _ (List.mem_of_getElem? (i := 45) rfl))) Via.refl e3 Sc (g := (mkF m 19 #[.val (.ref a1), .val (.ref a2), .val (.ref a2)] [])) rfl (hb hby d4_19)
    refine Goes.step (B := T4.setTop (mkF m 22 #[.val (.ref a1), .val (.ref a2), .val (.ref a2)] [(.int cs)])) st4 ?_
    refine Goes.step (B := T4.setTop (mkF m 25 #[.val (.ref a1), .val (.ref a2), .val (.ref a2)] [])) (fun _ k => XS.ifNo X4.here hx rfl (hb hby d4_22) rfl ((if0 _ _).trans (feq hcs).1) k) ?_
    refine Goes.step (B := T4.setTop (mkF m 26 #[.val (.ref a1), .val (.ref a2), .val (.ref a2)] [(.ref a1)])) (fun _ k => XS.aloadN X4.here hx rfl (hb hby d4_25) rfl rfl k) ?_
    obtain ⟨T5, X5, e5, st5⟩ := getF X4 hx hZ hown (host := "") (Or.inl (hw _ (List.mem_of_getElem? (i := 46) rfl))) Via.refl e4 Fc1 (g := (mkF m 26 #[.val (.ref a1), .val (.ref a2), .val (.ref a2)] [(.ref a1)])) rfl rfl (hb hby d4_26)
    refine Goes.step (B := T5.setTop (mkF m 29 #[.val (.ref a1), .val (.ref a2), .val (.ref a2)] [(.int (0 : Int32))])) st5 ?_
    refine Goes.step (B := T5.setTop (mkF m 30 #[.val (.ref a1), .val (.ref a2), .val (.ref a2)] [(.ref a2), (.int (0 : Int32))])) (fun _ k => XS.aloadN X5.here hx rfl (hb hby d4_29) rfl rfl k) ?_
    obtain ⟨T6, X6, e6, st6⟩ := getF X5 hx hZ hown (host := "") (Or.inl (hw _ (List.mem_of_getElem? (i := 46) rfl))) Via.refl e5 Fc2 (g := (mkF m 30 #[.val (.ref a1), .val (.ref a2), .val (.ref a2)] [(.ref a2), (.int (0 : Int32))])) rfl rfl (hb hby d4_30)
    refine Goes.step (B := T6.setTop (mkF m 33 #[.val (.ref a1), .val (.ref a2), .val (.ref a2)] [(.int (0 : Int32)), (.int (0 : Int32))])) st6 ?_
    refine Goes.step (B := T6.setTop (mkF m 36 #[.val (.ref a1), .val (.ref a2), .val (.ref a2)] [])) (fun _ k => XS.icmpNo X6.here hx rfl (hb hby d4_33) rfl (teq (by decide)).2 k) ?_
    refine Goes.step (B := T6.setTop (mkF m 37 #[.val (.ref a1), .val (.ref a2), .val (.ref a2)] [(.ref a1)])) (fun _ k => XS.aloadN X6.here hx rfl (hb hby d4_36) rfl rfl k) ?_
    obtain ⟨T7, X7, e7, st7⟩ := getF X6 hx hZ hown (host := "") (Or.inl (hw _ (List.mem_of_getElem? (i := 47) rfl))) Via.refl e6 Fv1 (g := (mkF m 37 #[.val (.ref a1), .val (.ref a2), .val (.ref a2)] [(.ref a1)])) rfl rfl (hb hby d4_37)
    refine Goes.step (B := T7.setTop (mkF m 40 #[.val (.ref a1), .val (.ref a2), .val (.ref a2)] [(.ref b1)])) st7 ?_
    refine Goes.step (B := T7.setTop (mkF m 41 #[.val (.ref a1), .val (.ref a2), .val (.ref a2)] [(.ref a2), (.ref b1)])) (fun _ k => XS.aloadN X7.here hx rfl (hb hby d4_40) rfl rfl k) ?_
    obtain ⟨T8, X8, e8, st8⟩ := getF X7 hx hZ hown (host := "") (Or.inl (hw _ (List.mem_of_getElem? (i := 47) rfl))) Via.refl e7 Fv2 (g := (mkF m 41 #[.val (.ref a1), .val (.ref a2), .val (.ref a2)] [(.ref a2), (.ref b1)])) rfl rfl (hb hby d4_41)
    refine Goes.step (B := T8.setTop (mkF m 44 #[.val (.ref a1), .val (.ref a2), .val (.ref a2)] [(.ref b2), (.ref b1)])) st8 ?_
    obtain ⟨_, _, ⟨T9, L9, k9, n9⟩, -, X9, ⟨Lc9, hQ9, l9, y9, z9⟩, st9⟩ := Jvm.LawKit.callS X8 hx (y := (⟨"java/lang/StringLatin1", "equals", "([B[B)Z"⟩ : MethodName)) hown (mvT hZ (hw _ (List.mem_of_getElem? (i := 48) rfl))) (mvT hZ (hw _ (List.mem_of_getElem? (i := 49) rfl))) (mvT hZ (hw _ (List.mem_of_getElem? (i := 50) rfl))) (mvT hZ (hw _ (List.mem_of_getElem? (i := 51) rfl))) (by decide) (backOf (W := 0) (rmLq1 l Z a0 hw [] b1 b2 k1 k2 h0 n0 O0 V1 V2) hZ (hw _ (List.mem_of_getElem? (i := 51) rfl)) (hw _ (List.mem_of_getElem? (i := 50) rfl)) (by decide) (by decide)) (g := (mkF m 44 #[.val (.ref a1), .val (.ref a2), .val (.ref a2)] [(.ref b2), (.ref b1)])) rfl (by rw [hml]; rfl) (argsL := [(.ref b1), (.ref b2)]) (rest := []) (lenOf pd_1 rfl) rfl (by show 2 * 0 + _ ≤ _; exact Nat.le_of_eq rfl) (hb hby d4_44) (fun _ _ => ⟨rfl, e8, (by decide : 0 + 0 ≤ _), (by decide : 0 + 0 ≤ _)⟩)
    dsimp only [Pt.U, Pt.locs, Pt.cells, Pt.slots] at X9 l9 y9 z9 st9 hQ9
    subst l9 y9 z9
    obtain ⟨rfl, Nq9, eh9⟩ := hQ9
    have N9 := Fr.app N0 Nq9
    refine Goes.step (B := T9.setTop (mkF m 47 #[.val (.ref a1), .val (.ref a2), .val (.ref a2)] [(.int (1 : Int32))])) st9 ?_
    refine Goes.step (B := T9.setTop (mkF m 50 #[.val (.ref a1), .val (.ref a2), .val (.ref a2)] [])) (fun _ k => XS.ifNo X9.here hx rfl (hb hby d4_47) rfl ((if0 _ _).trans (feq (by decide)).1) k) ?_
    refine Goes.step (B := T9.setTop (mkF m 51 #[.val (.ref a1), .val (.ref a2), .val (.ref a2)] [(.int (1 : Int32))])) (fun _ k => XS.iconst X9.here hx rfl (hb hby d4_50) k) ?_
    refine Goes.step (B := T9.setTop (mkF m 55 #[.val (.ref a1), .val (.ref a2), .val (.ref a2)] [(.int (1 : Int32))])) (fun _ k => XS.goto X9.here hx rfl (pc0 := 51) (pc' := 55) rfl (hb hby d4_51) (by decide) (by decide) k) ?_
    exact Goes.retN X9 hx eh9 (t := .boolean) Bd.returns (by simp) hlk (hb hby d4_55) (by decide) (by decide) (⟨rfl, N9, rfl⟩)
theorem ef_rmLq2 (m : MethodId) (x0 : Addr) (x1 : Addr) : entryFrame m #[(.ref x0), (.ref x1)] 3 = mkF m 0 #[.val (.ref x0), .val (.ref x1), .unset] [] := by first | (simp [entryFrame, mkF, argsToLocals, Value.category]; done) | rfl
def QLq2 (Z : State) (b1 : Addr) (b2 : Addr) (k1 : ClassId) (k2 : ClassId) (h0 : Heap) (n0 : Nat) (v : Option Value) (h : Heap) (L : List Loc) : Prop := v = some (.int (1 : Int32)) ∧ Fr n0 L ∧ h = h0
set_option maxRecDepth 65536 in
set_option maxHeartbeats 40000000 in
theorem rmLq2 (l : Launch) (Z : State) (a0 : Array Value) (hw : ∀ d ∈ tables_1, d.before a0 Z = true) (ws : List Jvm.Cond) (b1 : Addr) (b2 : Addr) (k1 : ClassId) (k2 : ClassId) (h0 : Heap) (n0 : Nat) (O0 : Old Z n0 h0) (V1 : Arv Z h0 b1 k1 .byte (10 : Int32) [.int (70 : Int32), .int (114 : Int32), .int (111 : Int32), .int (110 : Int32), .int (116 : Int32), .int (32 : Int32), .int (71 : Int32), .int (114 : Int32), .int (97 : Int32), .int (121 : Int32)] (.int (0 : Int32))) (V2 : Arv Z h0 b2 k2 .byte (10 : Int32) [.int (70 : Int32), .int (114 : Int32), .int (111 : Int32), .int (110 : Int32), .int (116 : Int32), .int (32 : Int32), .int (71 : Int32), .int (114 : Int32), .int (97 : Int32), .int (121 : Int32)] (.int (0 : Int32))) :
    MetFree l (⟨"java/lang/StringLatin1", "equals", "([B[B)Z"⟩ : MethodName) (head1 (Jvm.Cond.code (⟨"java/lang/StringLatin1", "equals", "([B[B)Z"⟩ : MethodName) jdk_43_method_13_code 3 (some .boolean) :: ws) ({ frames := 0, cells := 0, slots := 0, locals := 0 } : Room)) (fun a U => a = #[(.ref b1), (.ref b2)] ∧ Z.Warmed39 U.vm ∧ U.heap = h0) (fun _ _ _ _ _ => True) (fun _ U o U' => ∃ v L, o = .returned v ∧ QLq2 Z b1 b2 k1 k2 h0 n0 v U'.heap L ∧ FrameEnd U o U' L ({ frames := 0, cells := 0, slots := 0, locals := 0 } : Room).cells ({ frames := 0, cells := 0, slots := 0, locals := 0 } : Room).slots) := by
  refine MetFree.of_bodySF (plainFor_of_name pn_StringLatin1) hisR ?_
  intro p e s m args below meth c s₁ Bd hml0 hP hK
  obtain ⟨rfl, hZ, hh⟩ := hP
  have hx := Bd.exec
  have hby := Bd.bytes
  have hlk : meth.locks = false := BodyLoose.notSynchronized Bd
  have hml : c.maxLocals = 3 := hml0
  have hown : s.vm.findClass "java/lang/StringLatin1" = some m.cls := findClass_of_methodNamed Bd.named
  have hnm := (name_of_methodNamed Bd.named Bd.method).1
  have X0 : Stand p l e ({ frames := 0, cells := 0, slots := 0, locals := 0 } : Room) s m #[(.ref b1), (.ref b2)] below meth c s₁ [] 0 0 := Stand.of_body Bd
  have e0 : s₁.heap = h0 := by rw [← hh, Bd.state]; rfl
  have N0 := Fr.nil n0
  show Goes p e below s (QLq2 Z b1 b2 k1 k2 h0 n0) ({ frames := 0, cells := 0, slots := 0, locals := 0 } : Room).cells ({ frames := 0, cells := 0, slots := 0, locals := 0 } : Room).slots (s₁.setTop (entryFrame m #[(.ref b1), (.ref b2)] 3))
  refine Goes.enter (g' := (mkF m 0 #[.val (.ref b1), .val (.ref b2), .unset] [])) (ef_rmLq2 m b1 b2) ?_
  refine Goes.step (B := s₁.setTop (mkF m 1 #[.val (.ref b1), .val (.ref b2), .unset] [(.ref b1)])) (fun _ k => XS.aloadN X0.here hx rfl (hb hby d5_0) rfl rfl k) ?_
  obtain ⟨c1, Ar1, -, Sz1, Nn1, -, -⟩ := id V1
  have len1 := X0.arraylength hx (by rw [e0]; exact Ar1.1) (State.isArrayOf_alike hZ.alike Ar1.2.1) (g := (mkF m 1 #[.val (.ref b1), .val (.ref b2), .unset] [(.ref b1)])) rfl rfl (hb hby d5_1)
  rw [len_of Sz1 Nn1] at len1
  refine Goes.step (B := s₁.setTop (mkF m 2 #[.val (.ref b1), .val (.ref b2), .unset] [(.int (10 : Int32))])) len1 ?_
  refine Goes.step (B := s₁.setTop (mkF m 3 #[.val (.ref b1), .val (.ref b2), .unset] [(.ref b2), (.int (10 : Int32))])) (fun _ k => XS.aloadN X0.here hx rfl (hb hby d5_2) rfl rfl k) ?_
  obtain ⟨c2, Ar2, -, Sz2, Nn2, -, -⟩ := id V2
  have len2 := X0.arraylength hx (by rw [e0]; exact Ar2.1) (State.isArrayOf_alike hZ.alike Ar2.2.1) (g := (mkF m 3 #[.val (.ref b1), .val (.ref b2), .unset] [(.ref b2), (.int (10 : Int32))])) rfl rfl (hb hby d5_3)
  rw [len_of Sz2 Nn2] at len2
  refine Goes.step (B := s₁.setTop (mkF m 4 #[.val (.ref b1), .val (.ref b2), .unset] [(.int (10 : Int32)), (.int (10 : Int32))])) len2 ?_
  refine Goes.step (B := s₁.setTop (mkF m 7 #[.val (.ref b1), .val (.ref b2), .unset] [])) (fun _ k => XS.icmpNo X0.here hx rfl (hb hby d5_4) rfl (teq (by decide)).2 k) ?_
  refine Goes.step (B := s₁.setTop (mkF m 8 #[.val (.ref b1), .val (.ref b2), .unset] [(.int (0 : Int32))])) (fun _ k => XS.iconst X0.here hx rfl (hb hby d5_7) k) ?_
  refine Goes.step (B := s₁.setTop (mkF m 9 #[.val (.ref b1), .val (.ref b2), .val (.int (0 : Int32))] [])) (fun _ k => XS.istoreN X0.here hx rfl (hb hby d5_8) rfl (l' := #[.val (.ref b1), .val (.ref b2), .val (.int (0 : Int32))]) rfl k) ?_
  refine Goes.step (B := s₁.setTop (mkF m 10 #[.val (.ref b1), .val (.ref b2), .val (.int (0 : Int32))] [(.int (0 : Int32))])) (fun _ k => XS.iloadN X0.here hx rfl (hb hby d5_9) rfl k) ?_
  refine Goes.step (B := s₁.setTop (mkF m 11 #[.val (.ref b1), .val (.ref b2), .val (.int (0 : Int32))] [(.ref b1), (.int (0 : Int32))])) (fun _ k => XS.aloadN X0.here hx rfl (hb hby d5_10) rfl rfl k) ?_
  obtain ⟨c3, Ar3, -, Sz3, Nn3, -, -⟩ := id V1
  have len3 := X0.arraylength hx (by rw [e0]; exact Ar3.1) (State.isArrayOf_alike hZ.alike Ar3.2.1) (g := (mkF m 11 #[.val (.ref b1), .val (.ref b2), .val (.int (0 : Int32))] [(.ref b1), (.int (0 : Int32))])) rfl rfl (hb hby d5_11)
  rw [len_of Sz3 Nn3] at len3
  refine Goes.step (B := s₁.setTop (mkF m 12 #[.val (.ref b1), .val (.ref b2), .val (.int (0 : Int32))] [(.int (10 : Int32)), (.int (0 : Int32))])) len3 ?_
  refine Goes.step (B := s₁.setTop (mkF m 15 #[.val (.ref b1), .val (.ref b2), .val (.int (0 : Int32))] [])) (fun _ k => XS.icmpNo X0.here hx rfl (hb hby d5_12) rfl (tlt (by decide)).2.1 k) ?_
  refine Goes.step (B := s₁.setTop (mkF m 16 #[.val (.ref b1), .val (.ref b2), .val (.int (0 : Int32))] [(.ref b1)])) (fun _ k => XS.aloadN X0.here hx rfl (hb hby d5_15) rfl rfl k) ?_
  refine Goes.step (B := s₁.setTop (mkF m 17 #[.val (.ref b1), .val (.ref b2), .val (.int (0 : Int32))] [(.int (0 : Int32)), (.ref b1)])) (fun _ k => XS.iloadN X0.here hx rfl (hb hby d5_16) rfl k) ?_
  obtain ⟨c4, Ar4, -, Sz4, Nn4, Hs4, -⟩ := id V1
  have hin4 : ¬ ((0 : Int32) < 0 ∨ c4.slots.size ≤ ((0 : Int32)).toNatClampNeg) := inb_of Sz4 ⟨by decide, by decide⟩
  refine Goes.step (B := s₁.setTop (mkF m 18 #[.val (.ref b1), .val (.ref b2), .val (.int (0 : Int32))] [(.int (70 : Int32))])) (X0.baloadBytes hx (j := (0 : Int32)) (v := (.int (70 : Int32))) (by rw [e0]; exact Ar4.1) (State.isArrayOf_alike hZ.alike Ar4.2.1) Ar4.2.2 hin4 (Has.at Hs4 hin4 rfl) (g := (mkF m 17 #[.val (.ref b1), .val (.ref b2), .val (.int (0 : Int32))] [(.int (0 : Int32)), (.ref b1)])) rfl rfl (hb hby d5_17)) ?_
  refine Goes.step (B := s₁.setTop (mkF m 19 #[.val (.ref b1), .val (.ref b2), .val (.int (0 : Int32))] [(.ref b2), (.int (70 : Int32))])) (fun _ k => XS.aloadN X0.here hx rfl (hb hby d5_18) rfl rfl k) ?_
  refine Goes.step (B := s₁.setTop (mkF m 20 #[.val (.ref b1), .val (.ref b2), .val (.int (0 : Int32))] [(.int (0 : Int32)), (.ref b2), (.int (70 : Int32))])) (fun _ k => XS.iloadN X0.here hx rfl (hb hby d5_19) rfl k) ?_
  obtain ⟨c5, Ar5, -, Sz5, Nn5, Hs5, -⟩ := id V2
  have hin5 : ¬ ((0 : Int32) < 0 ∨ c5.slots.size ≤ ((0 : Int32)).toNatClampNeg) := inb_of Sz5 ⟨by decide, by decide⟩
  refine Goes.step (B := s₁.setTop (mkF m 21 #[.val (.ref b1), .val (.ref b2), .val (.int (0 : Int32))] [(.int (70 : Int32)), (.int (70 : Int32))])) (X0.baloadBytes hx (j := (0 : Int32)) (v := (.int (70 : Int32))) (by rw [e0]; exact Ar5.1) (State.isArrayOf_alike hZ.alike Ar5.2.1) Ar5.2.2 hin5 (Has.at Hs5 hin5 rfl) (g := (mkF m 20 #[.val (.ref b1), .val (.ref b2), .val (.int (0 : Int32))] [(.int (0 : Int32)), (.ref b2), (.int (70 : Int32))])) rfl rfl (hb hby d5_20)) ?_
  refine Goes.step (B := s₁.setTop (mkF m 26 #[.val (.ref b1), .val (.ref b2), .val (.int (0 : Int32))] [])) (fun _ k => XS.icmpYes X0.here hx rfl (pc0 := 21) (pc' := 26) rfl (hb hby d5_21) rfl (teq (by decide)).1 (by decide) (by decide) k) ?_
  refine Goes.step (B := s₁.setTop (mkF m 29 #[.val (.ref b1), .val (.ref b2), .val (.int (1 : Int32))] [])) (fun _ k => XS.iinc X0.here hx rfl (hb hby d5_26) rfl (l' := #[.val (.ref b1), .val (.ref b2), .val (.int (1 : Int32))]) rfl k) ?_
  refine Goes.step (B := s₁.setTop (mkF m 9 #[.val (.ref b1), .val (.ref b2), .val (.int (1 : Int32))] [])) (fun _ k => XS.goto X0.here hx rfl (pc0 := 29) (pc' := 9) rfl (hb hby d5_29) (by decide) (by decide) k) ?_
  refine Goes.step (B := s₁.setTop (mkF m 10 #[.val (.ref b1), .val (.ref b2), .val (.int (1 : Int32))] [(.int (1 : Int32))])) (fun _ k => XS.iloadN X0.here hx rfl (hb hby d5_9) rfl k) ?_
  refine Goes.step (B := s₁.setTop (mkF m 11 #[.val (.ref b1), .val (.ref b2), .val (.int (1 : Int32))] [(.ref b1), (.int (1 : Int32))])) (fun _ k => XS.aloadN X0.here hx rfl (hb hby d5_10) rfl rfl k) ?_
  obtain ⟨c6, Ar6, -, Sz6, Nn6, -, -⟩ := id V1
  have len6 := X0.arraylength hx (by rw [e0]; exact Ar6.1) (State.isArrayOf_alike hZ.alike Ar6.2.1) (g := (mkF m 11 #[.val (.ref b1), .val (.ref b2), .val (.int (1 : Int32))] [(.ref b1), (.int (1 : Int32))])) rfl rfl (hb hby d5_11)
  rw [len_of Sz6 Nn6] at len6
  refine Goes.step (B := s₁.setTop (mkF m 12 #[.val (.ref b1), .val (.ref b2), .val (.int (1 : Int32))] [(.int (10 : Int32)), (.int (1 : Int32))])) len6 ?_
  refine Goes.step (B := s₁.setTop (mkF m 15 #[.val (.ref b1), .val (.ref b2), .val (.int (1 : Int32))] [])) (fun _ k => XS.icmpNo X0.here hx rfl (hb hby d5_12) rfl (tlt (by decide)).2.1 k) ?_
  refine Goes.step (B := s₁.setTop (mkF m 16 #[.val (.ref b1), .val (.ref b2), .val (.int (1 : Int32))] [(.ref b1)])) (fun _ k => XS.aloadN X0.here hx rfl (hb hby d5_15) rfl rfl k) ?_
  refine Goes.step (B := s₁.setTop (mkF m 17 #[.val (.ref b1), .val (.ref b2), .val (.int (1 : Int32))] [(.int (1 : Int32)), (.ref b1)])) (fun _ k => XS.iloadN X0.here hx rfl (hb hby d5_16) rfl k) ?_
  obtain ⟨c7, Ar7, -, Sz7, Nn7, Hs7, -⟩ := id V1
  have hin7 : ¬ ((1 : Int32) < 0 ∨ c7.slots.size ≤ ((1 : Int32)).toNatClampNeg) := inb_of Sz7 ⟨by decide, by decide⟩
  refine Goes.step (B := s₁.setTop (mkF m 18 #[.val (.ref b1), .val (.ref b2), .val (.int (1 : Int32))] [(.int (114 : Int32))])) (X0.baloadBytes hx (j := (1 : Int32)) (v := (.int (114 : Int32))) (by rw [e0]; exact Ar7.1) (State.isArrayOf_alike hZ.alike Ar7.2.1) Ar7.2.2 hin7 (Has.at Hs7 hin7 rfl) (g := (mkF m 17 #[.val (.ref b1), .val (.ref b2), .val (.int (1 : Int32))] [(.int (1 : Int32)), (.ref b1)])) rfl rfl (hb hby d5_17)) ?_
  refine Goes.step (B := s₁.setTop (mkF m 19 #[.val (.ref b1), .val (.ref b2), .val (.int (1 : Int32))] [(.ref b2), (.int (114 : Int32))])) (fun _ k => XS.aloadN X0.here hx rfl (hb hby d5_18) rfl rfl k) ?_
  refine Goes.step (B := s₁.setTop (mkF m 20 #[.val (.ref b1), .val (.ref b2), .val (.int (1 : Int32))] [(.int (1 : Int32)), (.ref b2), (.int (114 : Int32))])) (fun _ k => XS.iloadN X0.here hx rfl (hb hby d5_19) rfl k) ?_
  obtain ⟨c8, Ar8, -, Sz8, Nn8, Hs8, -⟩ := id V2
  have hin8 : ¬ ((1 : Int32) < 0 ∨ c8.slots.size ≤ ((1 : Int32)).toNatClampNeg) := inb_of Sz8 ⟨by decide, by decide⟩
  refine Goes.step (B := s₁.setTop (mkF m 21 #[.val (.ref b1), .val (.ref b2), .val (.int (1 : Int32))] [(.int (114 : Int32)), (.int (114 : Int32))])) (X0.baloadBytes hx (j := (1 : Int32)) (v := (.int (114 : Int32))) (by rw [e0]; exact Ar8.1) (State.isArrayOf_alike hZ.alike Ar8.2.1) Ar8.2.2 hin8 (Has.at Hs8 hin8 rfl) (g := (mkF m 20 #[.val (.ref b1), .val (.ref b2), .val (.int (1 : Int32))] [(.int (1 : Int32)), (.ref b2), (.int (114 : Int32))])) rfl rfl (hb hby d5_20)) ?_
  refine Goes.step (B := s₁.setTop (mkF m 26 #[.val (.ref b1), .val (.ref b2), .val (.int (1 : Int32))] [])) (fun _ k => XS.icmpYes X0.here hx rfl (pc0 := 21) (pc' := 26) rfl (hb hby d5_21) rfl (teq (by decide)).1 (by decide) (by decide) k) ?_
  refine Goes.step (B := s₁.setTop (mkF m 29 #[.val (.ref b1), .val (.ref b2), .val (.int (2 : Int32))] [])) (fun _ k => XS.iinc X0.here hx rfl (hb hby d5_26) rfl (l' := #[.val (.ref b1), .val (.ref b2), .val (.int (2 : Int32))]) rfl k) ?_
  refine Goes.step (B := s₁.setTop (mkF m 9 #[.val (.ref b1), .val (.ref b2), .val (.int (2 : Int32))] [])) (fun _ k => XS.goto X0.here hx rfl (pc0 := 29) (pc' := 9) rfl (hb hby d5_29) (by decide) (by decide) k) ?_
  refine Goes.step (B := s₁.setTop (mkF m 10 #[.val (.ref b1), .val (.ref b2), .val (.int (2 : Int32))] [(.int (2 : Int32))])) (fun _ k => XS.iloadN X0.here hx rfl (hb hby d5_9) rfl k) ?_
  refine Goes.step (B := s₁.setTop (mkF m 11 #[.val (.ref b1), .val (.ref b2), .val (.int (2 : Int32))] [(.ref b1), (.int (2 : Int32))])) (fun _ k => XS.aloadN X0.here hx rfl (hb hby d5_10) rfl rfl k) ?_
  obtain ⟨c9, Ar9, -, Sz9, Nn9, -, -⟩ := id V1
  have len9 := X0.arraylength hx (by rw [e0]; exact Ar9.1) (State.isArrayOf_alike hZ.alike Ar9.2.1) (g := (mkF m 11 #[.val (.ref b1), .val (.ref b2), .val (.int (2 : Int32))] [(.ref b1), (.int (2 : Int32))])) rfl rfl (hb hby d5_11)
  rw [len_of Sz9 Nn9] at len9
  refine Goes.step (B := s₁.setTop (mkF m 12 #[.val (.ref b1), .val (.ref b2), .val (.int (2 : Int32))] [(.int (10 : Int32)), (.int (2 : Int32))])) len9 ?_
  refine Goes.step (B := s₁.setTop (mkF m 15 #[.val (.ref b1), .val (.ref b2), .val (.int (2 : Int32))] [])) (fun _ k => XS.icmpNo X0.here hx rfl (hb hby d5_12) rfl (tlt (by decide)).2.1 k) ?_
  refine Goes.step (B := s₁.setTop (mkF m 16 #[.val (.ref b1), .val (.ref b2), .val (.int (2 : Int32))] [(.ref b1)])) (fun _ k => XS.aloadN X0.here hx rfl (hb hby d5_15) rfl rfl k) ?_
  refine Goes.step (B := s₁.setTop (mkF m 17 #[.val (.ref b1), .val (.ref b2), .val (.int (2 : Int32))] [(.int (2 : Int32)), (.ref b1)])) (fun _ k => XS.iloadN X0.here hx rfl (hb hby d5_16) rfl k) ?_
  obtain ⟨c10, Ar10, -, Sz10, Nn10, Hs10, -⟩ := id V1
  have hin10 : ¬ ((2 : Int32) < 0 ∨ c10.slots.size ≤ ((2 : Int32)).toNatClampNeg) := inb_of Sz10 ⟨by decide, by decide⟩
  refine Goes.step (B := s₁.setTop (mkF m 18 #[.val (.ref b1), .val (.ref b2), .val (.int (2 : Int32))] [(.int (111 : Int32))])) (X0.baloadBytes hx (j := (2 : Int32)) (v := (.int (111 : Int32))) (by rw [e0]; exact Ar10.1) (State.isArrayOf_alike hZ.alike Ar10.2.1) Ar10.2.2 hin10 (Has.at Hs10 hin10 rfl) (g := (mkF m 17 #[.val (.ref b1), .val (.ref b2), .val (.int (2 : Int32))] [(.int (2 : Int32)), (.ref b1)])) rfl rfl (hb hby d5_17)) ?_
  refine Goes.step (B := s₁.setTop (mkF m 19 #[.val (.ref b1), .val (.ref b2), .val (.int (2 : Int32))] [(.ref b2), (.int (111 : Int32))])) (fun _ k => XS.aloadN X0.here hx rfl (hb hby d5_18) rfl rfl k) ?_
  refine Goes.step (B := s₁.setTop (mkF m 20 #[.val (.ref b1), .val (.ref b2), .val (.int (2 : Int32))] [(.int (2 : Int32)), (.ref b2), (.int (111 : Int32))])) (fun _ k => XS.iloadN X0.here hx rfl (hb hby d5_19) rfl k) ?_
  obtain ⟨c11, Ar11, -, Sz11, Nn11, Hs11, -⟩ := id V2
  have hin11 : ¬ ((2 : Int32) < 0 ∨ c11.slots.size ≤ ((2 : Int32)).toNatClampNeg) := inb_of Sz11 ⟨by decide, by decide⟩
  refine Goes.step (B := s₁.setTop (mkF m 21 #[.val (.ref b1), .val (.ref b2), .val (.int (2 : Int32))] [(.int (111 : Int32)), (.int (111 : Int32))])) (X0.baloadBytes hx (j := (2 : Int32)) (v := (.int (111 : Int32))) (by rw [e0]; exact Ar11.1) (State.isArrayOf_alike hZ.alike Ar11.2.1) Ar11.2.2 hin11 (Has.at Hs11 hin11 rfl) (g := (mkF m 20 #[.val (.ref b1), .val (.ref b2), .val (.int (2 : Int32))] [(.int (2 : Int32)), (.ref b2), (.int (111 : Int32))])) rfl rfl (hb hby d5_20)) ?_
  refine Goes.step (B := s₁.setTop (mkF m 26 #[.val (.ref b1), .val (.ref b2), .val (.int (2 : Int32))] [])) (fun _ k => XS.icmpYes X0.here hx rfl (pc0 := 21) (pc' := 26) rfl (hb hby d5_21) rfl (teq (by decide)).1 (by decide) (by decide) k) ?_
  refine Goes.step (B := s₁.setTop (mkF m 29 #[.val (.ref b1), .val (.ref b2), .val (.int (3 : Int32))] [])) (fun _ k => XS.iinc X0.here hx rfl (hb hby d5_26) rfl (l' := #[.val (.ref b1), .val (.ref b2), .val (.int (3 : Int32))]) rfl k) ?_
  refine Goes.step (B := s₁.setTop (mkF m 9 #[.val (.ref b1), .val (.ref b2), .val (.int (3 : Int32))] [])) (fun _ k => XS.goto X0.here hx rfl (pc0 := 29) (pc' := 9) rfl (hb hby d5_29) (by decide) (by decide) k) ?_
  refine Goes.step (B := s₁.setTop (mkF m 10 #[.val (.ref b1), .val (.ref b2), .val (.int (3 : Int32))] [(.int (3 : Int32))])) (fun _ k => XS.iloadN X0.here hx rfl (hb hby d5_9) rfl k) ?_
  refine Goes.step (B := s₁.setTop (mkF m 11 #[.val (.ref b1), .val (.ref b2), .val (.int (3 : Int32))] [(.ref b1), (.int (3 : Int32))])) (fun _ k => XS.aloadN X0.here hx rfl (hb hby d5_10) rfl rfl k) ?_
  obtain ⟨c12, Ar12, -, Sz12, Nn12, -, -⟩ := id V1
  have len12 := X0.arraylength hx (by rw [e0]; exact Ar12.1) (State.isArrayOf_alike hZ.alike Ar12.2.1) (g := (mkF m 11 #[.val (.ref b1), .val (.ref b2), .val (.int (3 : Int32))] [(.ref b1), (.int (3 : Int32))])) rfl rfl (hb hby d5_11)
  rw [len_of Sz12 Nn12] at len12
  refine Goes.step (B := s₁.setTop (mkF m 12 #[.val (.ref b1), .val (.ref b2), .val (.int (3 : Int32))] [(.int (10 : Int32)), (.int (3 : Int32))])) len12 ?_
  refine Goes.step (B := s₁.setTop (mkF m 15 #[.val (.ref b1), .val (.ref b2), .val (.int (3 : Int32))] [])) (fun _ k => XS.icmpNo X0.here hx rfl (hb hby d5_12) rfl (tlt (by decide)).2.1 k) ?_
  refine Goes.step (B := s₁.setTop (mkF m 16 #[.val (.ref b1), .val (.ref b2), .val (.int (3 : Int32))] [(.ref b1)])) (fun _ k => XS.aloadN X0.here hx rfl (hb hby d5_15) rfl rfl k) ?_
  refine Goes.step (B := s₁.setTop (mkF m 17 #[.val (.ref b1), .val (.ref b2), .val (.int (3 : Int32))] [(.int (3 : Int32)), (.ref b1)])) (fun _ k => XS.iloadN X0.here hx rfl (hb hby d5_16) rfl k) ?_
  obtain ⟨c13, Ar13, -, Sz13, Nn13, Hs13, -⟩ := id V1
  have hin13 : ¬ ((3 : Int32) < 0 ∨ c13.slots.size ≤ ((3 : Int32)).toNatClampNeg) := inb_of Sz13 ⟨by decide, by decide⟩
  refine Goes.step (B := s₁.setTop (mkF m 18 #[.val (.ref b1), .val (.ref b2), .val (.int (3 : Int32))] [(.int (110 : Int32))])) (X0.baloadBytes hx (j := (3 : Int32)) (v := (.int (110 : Int32))) (by rw [e0]; exact Ar13.1) (State.isArrayOf_alike hZ.alike Ar13.2.1) Ar13.2.2 hin13 (Has.at Hs13 hin13 rfl) (g := (mkF m 17 #[.val (.ref b1), .val (.ref b2), .val (.int (3 : Int32))] [(.int (3 : Int32)), (.ref b1)])) rfl rfl (hb hby d5_17)) ?_
  refine Goes.step (B := s₁.setTop (mkF m 19 #[.val (.ref b1), .val (.ref b2), .val (.int (3 : Int32))] [(.ref b2), (.int (110 : Int32))])) (fun _ k => XS.aloadN X0.here hx rfl (hb hby d5_18) rfl rfl k) ?_
  refine Goes.step (B := s₁.setTop (mkF m 20 #[.val (.ref b1), .val (.ref b2), .val (.int (3 : Int32))] [(.int (3 : Int32)), (.ref b2), (.int (110 : Int32))])) (fun _ k => XS.iloadN X0.here hx rfl (hb hby d5_19) rfl k) ?_
  obtain ⟨c14, Ar14, -, Sz14, Nn14, Hs14, -⟩ := id V2
  have hin14 : ¬ ((3 : Int32) < 0 ∨ c14.slots.size ≤ ((3 : Int32)).toNatClampNeg) := inb_of Sz14 ⟨by decide, by decide⟩
  refine Goes.step (B := s₁.setTop (mkF m 21 #[.val (.ref b1), .val (.ref b2), .val (.int (3 : Int32))] [(.int (110 : Int32)), (.int (110 : Int32))])) (X0.baloadBytes hx (j := (3 : Int32)) (v := (.int (110 : Int32))) (by rw [e0]; exact Ar14.1) (State.isArrayOf_alike hZ.alike Ar14.2.1) Ar14.2.2 hin14 (Has.at Hs14 hin14 rfl) (g := (mkF m 20 #[.val (.ref b1), .val (.ref b2), .val (.int (3 : Int32))] [(.int (3 : Int32)), (.ref b2), (.int (110 : Int32))])) rfl rfl (hb hby d5_20)) ?_
  refine Goes.step (B := s₁.setTop (mkF m 26 #[.val (.ref b1), .val (.ref b2), .val (.int (3 : Int32))] [])) (fun _ k => XS.icmpYes X0.here hx rfl (pc0 := 21) (pc' := 26) rfl (hb hby d5_21) rfl (teq (by decide)).1 (by decide) (by decide) k) ?_
  refine Goes.step (B := s₁.setTop (mkF m 29 #[.val (.ref b1), .val (.ref b2), .val (.int (4 : Int32))] [])) (fun _ k => XS.iinc X0.here hx rfl (hb hby d5_26) rfl (l' := #[.val (.ref b1), .val (.ref b2), .val (.int (4 : Int32))]) rfl k) ?_
  refine Goes.step (B := s₁.setTop (mkF m 9 #[.val (.ref b1), .val (.ref b2), .val (.int (4 : Int32))] [])) (fun _ k => XS.goto X0.here hx rfl (pc0 := 29) (pc' := 9) rfl (hb hby d5_29) (by decide) (by decide) k) ?_
  refine Goes.step (B := s₁.setTop (mkF m 10 #[.val (.ref b1), .val (.ref b2), .val (.int (4 : Int32))] [(.int (4 : Int32))])) (fun _ k => XS.iloadN X0.here hx rfl (hb hby d5_9) rfl k) ?_
  refine Goes.step (B := s₁.setTop (mkF m 11 #[.val (.ref b1), .val (.ref b2), .val (.int (4 : Int32))] [(.ref b1), (.int (4 : Int32))])) (fun _ k => XS.aloadN X0.here hx rfl (hb hby d5_10) rfl rfl k) ?_
  obtain ⟨c15, Ar15, -, Sz15, Nn15, -, -⟩ := id V1
  have len15 := X0.arraylength hx (by rw [e0]; exact Ar15.1) (State.isArrayOf_alike hZ.alike Ar15.2.1) (g := (mkF m 11 #[.val (.ref b1), .val (.ref b2), .val (.int (4 : Int32))] [(.ref b1), (.int (4 : Int32))])) rfl rfl (hb hby d5_11)
  rw [len_of Sz15 Nn15] at len15
  refine Goes.step (B := s₁.setTop (mkF m 12 #[.val (.ref b1), .val (.ref b2), .val (.int (4 : Int32))] [(.int (10 : Int32)), (.int (4 : Int32))])) len15 ?_
  refine Goes.step (B := s₁.setTop (mkF m 15 #[.val (.ref b1), .val (.ref b2), .val (.int (4 : Int32))] [])) (fun _ k => XS.icmpNo X0.here hx rfl (hb hby d5_12) rfl (tlt (by decide)).2.1 k) ?_
  refine Goes.step (B := s₁.setTop (mkF m 16 #[.val (.ref b1), .val (.ref b2), .val (.int (4 : Int32))] [(.ref b1)])) (fun _ k => XS.aloadN X0.here hx rfl (hb hby d5_15) rfl rfl k) ?_
  refine Goes.step (B := s₁.setTop (mkF m 17 #[.val (.ref b1), .val (.ref b2), .val (.int (4 : Int32))] [(.int (4 : Int32)), (.ref b1)])) (fun _ k => XS.iloadN X0.here hx rfl (hb hby d5_16) rfl k) ?_
  obtain ⟨c16, Ar16, -, Sz16, Nn16, Hs16, -⟩ := id V1
  have hin16 : ¬ ((4 : Int32) < 0 ∨ c16.slots.size ≤ ((4 : Int32)).toNatClampNeg) := inb_of Sz16 ⟨by decide, by decide⟩
  refine Goes.step (B := s₁.setTop (mkF m 18 #[.val (.ref b1), .val (.ref b2), .val (.int (4 : Int32))] [(.int (116 : Int32))])) (X0.baloadBytes hx (j := (4 : Int32)) (v := (.int (116 : Int32))) (by rw [e0]; exact Ar16.1) (State.isArrayOf_alike hZ.alike Ar16.2.1) Ar16.2.2 hin16 (Has.at Hs16 hin16 rfl) (g := (mkF m 17 #[.val (.ref b1), .val (.ref b2), .val (.int (4 : Int32))] [(.int (4 : Int32)), (.ref b1)])) rfl rfl (hb hby d5_17)) ?_
  refine Goes.step (B := s₁.setTop (mkF m 19 #[.val (.ref b1), .val (.ref b2), .val (.int (4 : Int32))] [(.ref b2), (.int (116 : Int32))])) (fun _ k => XS.aloadN X0.here hx rfl (hb hby d5_18) rfl rfl k) ?_
  refine Goes.step (B := s₁.setTop (mkF m 20 #[.val (.ref b1), .val (.ref b2), .val (.int (4 : Int32))] [(.int (4 : Int32)), (.ref b2), (.int (116 : Int32))])) (fun _ k => XS.iloadN X0.here hx rfl (hb hby d5_19) rfl k) ?_
  obtain ⟨c17, Ar17, -, Sz17, Nn17, Hs17, -⟩ := id V2
  have hin17 : ¬ ((4 : Int32) < 0 ∨ c17.slots.size ≤ ((4 : Int32)).toNatClampNeg) := inb_of Sz17 ⟨by decide, by decide⟩
  refine Goes.step (B := s₁.setTop (mkF m 21 #[.val (.ref b1), .val (.ref b2), .val (.int (4 : Int32))] [(.int (116 : Int32)), (.int (116 : Int32))])) (X0.baloadBytes hx (j := (4 : Int32)) (v := (.int (116 : Int32))) (by rw [e0]; exact Ar17.1) (State.isArrayOf_alike hZ.alike Ar17.2.1) Ar17.2.2 hin17 (Has.at Hs17 hin17 rfl) (g := (mkF m 20 #[.val (.ref b1), .val (.ref b2), .val (.int (4 : Int32))] [(.int (4 : Int32)), (.ref b2), (.int (116 : Int32))])) rfl rfl (hb hby d5_20)) ?_
  refine Goes.step (B := s₁.setTop (mkF m 26 #[.val (.ref b1), .val (.ref b2), .val (.int (4 : Int32))] [])) (fun _ k => XS.icmpYes X0.here hx rfl (pc0 := 21) (pc' := 26) rfl (hb hby d5_21) rfl (teq (by decide)).1 (by decide) (by decide) k) ?_
  refine Goes.step (B := s₁.setTop (mkF m 29 #[.val (.ref b1), .val (.ref b2), .val (.int (5 : Int32))] [])) (fun _ k => XS.iinc X0.here hx rfl (hb hby d5_26) rfl (l' := #[.val (.ref b1), .val (.ref b2), .val (.int (5 : Int32))]) rfl k) ?_
  refine Goes.step (B := s₁.setTop (mkF m 9 #[.val (.ref b1), .val (.ref b2), .val (.int (5 : Int32))] [])) (fun _ k => XS.goto X0.here hx rfl (pc0 := 29) (pc' := 9) rfl (hb hby d5_29) (by decide) (by decide) k) ?_
  refine Goes.step (B := s₁.setTop (mkF m 10 #[.val (.ref b1), .val (.ref b2), .val (.int (5 : Int32))] [(.int (5 : Int32))])) (fun _ k => XS.iloadN X0.here hx rfl (hb hby d5_9) rfl k) ?_
  refine Goes.step (B := s₁.setTop (mkF m 11 #[.val (.ref b1), .val (.ref b2), .val (.int (5 : Int32))] [(.ref b1), (.int (5 : Int32))])) (fun _ k => XS.aloadN X0.here hx rfl (hb hby d5_10) rfl rfl k) ?_
  obtain ⟨c18, Ar18, -, Sz18, Nn18, -, -⟩ := id V1
  have len18 := X0.arraylength hx (by rw [e0]; exact Ar18.1) (State.isArrayOf_alike hZ.alike Ar18.2.1) (g := (mkF m 11 #[.val (.ref b1), .val (.ref b2), .val (.int (5 : Int32))] [(.ref b1), (.int (5 : Int32))])) rfl rfl (hb hby d5_11)
  rw [len_of Sz18 Nn18] at len18
  refine Goes.step (B := s₁.setTop (mkF m 12 #[.val (.ref b1), .val (.ref b2), .val (.int (5 : Int32))] [(.int (10 : Int32)), (.int (5 : Int32))])) len18 ?_
  refine Goes.step (B := s₁.setTop (mkF m 15 #[.val (.ref b1), .val (.ref b2), .val (.int (5 : Int32))] [])) (fun _ k => XS.icmpNo X0.here hx rfl (hb hby d5_12) rfl (tlt (by decide)).2.1 k) ?_
  refine Goes.step (B := s₁.setTop (mkF m 16 #[.val (.ref b1), .val (.ref b2), .val (.int (5 : Int32))] [(.ref b1)])) (fun _ k => XS.aloadN X0.here hx rfl (hb hby d5_15) rfl rfl k) ?_
  refine Goes.step (B := s₁.setTop (mkF m 17 #[.val (.ref b1), .val (.ref b2), .val (.int (5 : Int32))] [(.int (5 : Int32)), (.ref b1)])) (fun _ k => XS.iloadN X0.here hx rfl (hb hby d5_16) rfl k) ?_
  obtain ⟨c19, Ar19, -, Sz19, Nn19, Hs19, -⟩ := id V1
  have hin19 : ¬ ((5 : Int32) < 0 ∨ c19.slots.size ≤ ((5 : Int32)).toNatClampNeg) := inb_of Sz19 ⟨by decide, by decide⟩
  refine Goes.step (B := s₁.setTop (mkF m 18 #[.val (.ref b1), .val (.ref b2), .val (.int (5 : Int32))] [(.int (32 : Int32))])) (X0.baloadBytes hx (j := (5 : Int32)) (v := (.int (32 : Int32))) (by rw [e0]; exact Ar19.1) (State.isArrayOf_alike hZ.alike Ar19.2.1) Ar19.2.2 hin19 (Has.at Hs19 hin19 rfl) (g := (mkF m 17 #[.val (.ref b1), .val (.ref b2), .val (.int (5 : Int32))] [(.int (5 : Int32)), (.ref b1)])) rfl rfl (hb hby d5_17)) ?_
  refine Goes.step (B := s₁.setTop (mkF m 19 #[.val (.ref b1), .val (.ref b2), .val (.int (5 : Int32))] [(.ref b2), (.int (32 : Int32))])) (fun _ k => XS.aloadN X0.here hx rfl (hb hby d5_18) rfl rfl k) ?_
  refine Goes.step (B := s₁.setTop (mkF m 20 #[.val (.ref b1), .val (.ref b2), .val (.int (5 : Int32))] [(.int (5 : Int32)), (.ref b2), (.int (32 : Int32))])) (fun _ k => XS.iloadN X0.here hx rfl (hb hby d5_19) rfl k) ?_
  obtain ⟨c20, Ar20, -, Sz20, Nn20, Hs20, -⟩ := id V2
  have hin20 : ¬ ((5 : Int32) < 0 ∨ c20.slots.size ≤ ((5 : Int32)).toNatClampNeg) := inb_of Sz20 ⟨by decide, by decide⟩
  refine Goes.step (B := s₁.setTop (mkF m 21 #[.val (.ref b1), .val (.ref b2), .val (.int (5 : Int32))] [(.int (32 : Int32)), (.int (32 : Int32))])) (X0.baloadBytes hx (j := (5 : Int32)) (v := (.int (32 : Int32))) (by rw [e0]; exact Ar20.1) (State.isArrayOf_alike hZ.alike Ar20.2.1) Ar20.2.2 hin20 (Has.at Hs20 hin20 rfl) (g := (mkF m 20 #[.val (.ref b1), .val (.ref b2), .val (.int (5 : Int32))] [(.int (5 : Int32)), (.ref b2), (.int (32 : Int32))])) rfl rfl (hb hby d5_20)) ?_
  refine Goes.step (B := s₁.setTop (mkF m 26 #[.val (.ref b1), .val (.ref b2), .val (.int (5 : Int32))] [])) (fun _ k => XS.icmpYes X0.here hx rfl (pc0 := 21) (pc' := 26) rfl (hb hby d5_21) rfl (teq (by decide)).1 (by decide) (by decide) k) ?_
  refine Goes.step (B := s₁.setTop (mkF m 29 #[.val (.ref b1), .val (.ref b2), .val (.int (6 : Int32))] [])) (fun _ k => XS.iinc X0.here hx rfl (hb hby d5_26) rfl (l' := #[.val (.ref b1), .val (.ref b2), .val (.int (6 : Int32))]) rfl k) ?_
  refine Goes.step (B := s₁.setTop (mkF m 9 #[.val (.ref b1), .val (.ref b2), .val (.int (6 : Int32))] [])) (fun _ k => XS.goto X0.here hx rfl (pc0 := 29) (pc' := 9) rfl (hb hby d5_29) (by decide) (by decide) k) ?_
  refine Goes.step (B := s₁.setTop (mkF m 10 #[.val (.ref b1), .val (.ref b2), .val (.int (6 : Int32))] [(.int (6 : Int32))])) (fun _ k => XS.iloadN X0.here hx rfl (hb hby d5_9) rfl k) ?_
  refine Goes.step (B := s₁.setTop (mkF m 11 #[.val (.ref b1), .val (.ref b2), .val (.int (6 : Int32))] [(.ref b1), (.int (6 : Int32))])) (fun _ k => XS.aloadN X0.here hx rfl (hb hby d5_10) rfl rfl k) ?_
  obtain ⟨c21, Ar21, -, Sz21, Nn21, -, -⟩ := id V1
  have len21 := X0.arraylength hx (by rw [e0]; exact Ar21.1) (State.isArrayOf_alike hZ.alike Ar21.2.1) (g := (mkF m 11 #[.val (.ref b1), .val (.ref b2), .val (.int (6 : Int32))] [(.ref b1), (.int (6 : Int32))])) rfl rfl (hb hby d5_11)
  rw [len_of Sz21 Nn21] at len21
  refine Goes.step (B := s₁.setTop (mkF m 12 #[.val (.ref b1), .val (.ref b2), .val (.int (6 : Int32))] [(.int (10 : Int32)), (.int (6 : Int32))])) len21 ?_
  refine Goes.step (B := s₁.setTop (mkF m 15 #[.val (.ref b1), .val (.ref b2), .val (.int (6 : Int32))] [])) (fun _ k => XS.icmpNo X0.here hx rfl (hb hby d5_12) rfl (tlt (by decide)).2.1 k) ?_
  refine Goes.step (B := s₁.setTop (mkF m 16 #[.val (.ref b1), .val (.ref b2), .val (.int (6 : Int32))] [(.ref b1)])) (fun _ k => XS.aloadN X0.here hx rfl (hb hby d5_15) rfl rfl k) ?_
  refine Goes.step (B := s₁.setTop (mkF m 17 #[.val (.ref b1), .val (.ref b2), .val (.int (6 : Int32))] [(.int (6 : Int32)), (.ref b1)])) (fun _ k => XS.iloadN X0.here hx rfl (hb hby d5_16) rfl k) ?_
  obtain ⟨c22, Ar22, -, Sz22, Nn22, Hs22, -⟩ := id V1
  have hin22 : ¬ ((6 : Int32) < 0 ∨ c22.slots.size ≤ ((6 : Int32)).toNatClampNeg) := inb_of Sz22 ⟨by decide, by decide⟩
  refine Goes.step (B := s₁.setTop (mkF m 18 #[.val (.ref b1), .val (.ref b2), .val (.int (6 : Int32))] [(.int (71 : Int32))])) (X0.baloadBytes hx (j := (6 : Int32)) (v := (.int (71 : Int32))) (by rw [e0]; exact Ar22.1) (State.isArrayOf_alike hZ.alike Ar22.2.1) Ar22.2.2 hin22 (Has.at Hs22 hin22 rfl) (g := (mkF m 17 #[.val (.ref b1), .val (.ref b2), .val (.int (6 : Int32))] [(.int (6 : Int32)), (.ref b1)])) rfl rfl (hb hby d5_17)) ?_
  refine Goes.step (B := s₁.setTop (mkF m 19 #[.val (.ref b1), .val (.ref b2), .val (.int (6 : Int32))] [(.ref b2), (.int (71 : Int32))])) (fun _ k => XS.aloadN X0.here hx rfl (hb hby d5_18) rfl rfl k) ?_
  refine Goes.step (B := s₁.setTop (mkF m 20 #[.val (.ref b1), .val (.ref b2), .val (.int (6 : Int32))] [(.int (6 : Int32)), (.ref b2), (.int (71 : Int32))])) (fun _ k => XS.iloadN X0.here hx rfl (hb hby d5_19) rfl k) ?_
  obtain ⟨c23, Ar23, -, Sz23, Nn23, Hs23, -⟩ := id V2
  have hin23 : ¬ ((6 : Int32) < 0 ∨ c23.slots.size ≤ ((6 : Int32)).toNatClampNeg) := inb_of Sz23 ⟨by decide, by decide⟩
  refine Goes.step (B := s₁.setTop (mkF m 21 #[.val (.ref b1), .val (.ref b2), .val (.int (6 : Int32))] [(.int (71 : Int32)), (.int (71 : Int32))])) (X0.baloadBytes hx (j := (6 : Int32)) (v := (.int (71 : Int32))) (by rw [e0]; exact Ar23.1) (State.isArrayOf_alike hZ.alike Ar23.2.1) Ar23.2.2 hin23 (Has.at Hs23 hin23 rfl) (g := (mkF m 20 #[.val (.ref b1), .val (.ref b2), .val (.int (6 : Int32))] [(.int (6 : Int32)), (.ref b2), (.int (71 : Int32))])) rfl rfl (hb hby d5_20)) ?_
  refine Goes.step (B := s₁.setTop (mkF m 26 #[.val (.ref b1), .val (.ref b2), .val (.int (6 : Int32))] [])) (fun _ k => XS.icmpYes X0.here hx rfl (pc0 := 21) (pc' := 26) rfl (hb hby d5_21) rfl (teq (by decide)).1 (by decide) (by decide) k) ?_
  refine Goes.step (B := s₁.setTop (mkF m 29 #[.val (.ref b1), .val (.ref b2), .val (.int (7 : Int32))] [])) (fun _ k => XS.iinc X0.here hx rfl (hb hby d5_26) rfl (l' := #[.val (.ref b1), .val (.ref b2), .val (.int (7 : Int32))]) rfl k) ?_
  refine Goes.step (B := s₁.setTop (mkF m 9 #[.val (.ref b1), .val (.ref b2), .val (.int (7 : Int32))] [])) (fun _ k => XS.goto X0.here hx rfl (pc0 := 29) (pc' := 9) rfl (hb hby d5_29) (by decide) (by decide) k) ?_
  refine Goes.step (B := s₁.setTop (mkF m 10 #[.val (.ref b1), .val (.ref b2), .val (.int (7 : Int32))] [(.int (7 : Int32))])) (fun _ k => XS.iloadN X0.here hx rfl (hb hby d5_9) rfl k) ?_
  refine Goes.step (B := s₁.setTop (mkF m 11 #[.val (.ref b1), .val (.ref b2), .val (.int (7 : Int32))] [(.ref b1), (.int (7 : Int32))])) (fun _ k => XS.aloadN X0.here hx rfl (hb hby d5_10) rfl rfl k) ?_
  obtain ⟨c24, Ar24, -, Sz24, Nn24, -, -⟩ := id V1
  have len24 := X0.arraylength hx (by rw [e0]; exact Ar24.1) (State.isArrayOf_alike hZ.alike Ar24.2.1) (g := (mkF m 11 #[.val (.ref b1), .val (.ref b2), .val (.int (7 : Int32))] [(.ref b1), (.int (7 : Int32))])) rfl rfl (hb hby d5_11)
  rw [len_of Sz24 Nn24] at len24
  refine Goes.step (B := s₁.setTop (mkF m 12 #[.val (.ref b1), .val (.ref b2), .val (.int (7 : Int32))] [(.int (10 : Int32)), (.int (7 : Int32))])) len24 ?_
  refine Goes.step (B := s₁.setTop (mkF m 15 #[.val (.ref b1), .val (.ref b2), .val (.int (7 : Int32))] [])) (fun _ k => XS.icmpNo X0.here hx rfl (hb hby d5_12) rfl (tlt (by decide)).2.1 k) ?_
  refine Goes.step (B := s₁.setTop (mkF m 16 #[.val (.ref b1), .val (.ref b2), .val (.int (7 : Int32))] [(.ref b1)])) (fun _ k => XS.aloadN X0.here hx rfl (hb hby d5_15) rfl rfl k) ?_
  refine Goes.step (B := s₁.setTop (mkF m 17 #[.val (.ref b1), .val (.ref b2), .val (.int (7 : Int32))] [(.int (7 : Int32)), (.ref b1)])) (fun _ k => XS.iloadN X0.here hx rfl (hb hby d5_16) rfl k) ?_
  obtain ⟨c25, Ar25, -, Sz25, Nn25, Hs25, -⟩ := id V1
  have hin25 : ¬ ((7 : Int32) < 0 ∨ c25.slots.size ≤ ((7 : Int32)).toNatClampNeg) := inb_of Sz25 ⟨by decide, by decide⟩
  refine Goes.step (B := s₁.setTop (mkF m 18 #[.val (.ref b1), .val (.ref b2), .val (.int (7 : Int32))] [(.int (114 : Int32))])) (X0.baloadBytes hx (j := (7 : Int32)) (v := (.int (114 : Int32))) (by rw [e0]; exact Ar25.1) (State.isArrayOf_alike hZ.alike Ar25.2.1) Ar25.2.2 hin25 (Has.at Hs25 hin25 rfl) (g := (mkF m 17 #[.val (.ref b1), .val (.ref b2), .val (.int (7 : Int32))] [(.int (7 : Int32)), (.ref b1)])) rfl rfl (hb hby d5_17)) ?_
  refine Goes.step (B := s₁.setTop (mkF m 19 #[.val (.ref b1), .val (.ref b2), .val (.int (7 : Int32))] [(.ref b2), (.int (114 : Int32))])) (fun _ k => XS.aloadN X0.here hx rfl (hb hby d5_18) rfl rfl k) ?_
  refine Goes.step (B := s₁.setTop (mkF m 20 #[.val (.ref b1), .val (.ref b2), .val (.int (7 : Int32))] [(.int (7 : Int32)), (.ref b2), (.int (114 : Int32))])) (fun _ k => XS.iloadN X0.here hx rfl (hb hby d5_19) rfl k) ?_
  obtain ⟨c26, Ar26, -, Sz26, Nn26, Hs26, -⟩ := id V2
  have hin26 : ¬ ((7 : Int32) < 0 ∨ c26.slots.size ≤ ((7 : Int32)).toNatClampNeg) := inb_of Sz26 ⟨by decide, by decide⟩
  refine Goes.step (B := s₁.setTop (mkF m 21 #[.val (.ref b1), .val (.ref b2), .val (.int (7 : Int32))] [(.int (114 : Int32)), (.int (114 : Int32))])) (X0.baloadBytes hx (j := (7 : Int32)) (v := (.int (114 : Int32))) (by rw [e0]; exact Ar26.1) (State.isArrayOf_alike hZ.alike Ar26.2.1) Ar26.2.2 hin26 (Has.at Hs26 hin26 rfl) (g := (mkF m 20 #[.val (.ref b1), .val (.ref b2), .val (.int (7 : Int32))] [(.int (7 : Int32)), (.ref b2), (.int (114 : Int32))])) rfl rfl (hb hby d5_20)) ?_
  refine Goes.step (B := s₁.setTop (mkF m 26 #[.val (.ref b1), .val (.ref b2), .val (.int (7 : Int32))] [])) (fun _ k => XS.icmpYes X0.here hx rfl (pc0 := 21) (pc' := 26) rfl (hb hby d5_21) rfl (teq (by decide)).1 (by decide) (by decide) k) ?_
  refine Goes.step (B := s₁.setTop (mkF m 29 #[.val (.ref b1), .val (.ref b2), .val (.int (8 : Int32))] [])) (fun _ k => XS.iinc X0.here hx rfl (hb hby d5_26) rfl (l' := #[.val (.ref b1), .val (.ref b2), .val (.int (8 : Int32))]) rfl k) ?_
  refine Goes.step (B := s₁.setTop (mkF m 9 #[.val (.ref b1), .val (.ref b2), .val (.int (8 : Int32))] [])) (fun _ k => XS.goto X0.here hx rfl (pc0 := 29) (pc' := 9) rfl (hb hby d5_29) (by decide) (by decide) k) ?_
  refine Goes.step (B := s₁.setTop (mkF m 10 #[.val (.ref b1), .val (.ref b2), .val (.int (8 : Int32))] [(.int (8 : Int32))])) (fun _ k => XS.iloadN X0.here hx rfl (hb hby d5_9) rfl k) ?_
  refine Goes.step (B := s₁.setTop (mkF m 11 #[.val (.ref b1), .val (.ref b2), .val (.int (8 : Int32))] [(.ref b1), (.int (8 : Int32))])) (fun _ k => XS.aloadN X0.here hx rfl (hb hby d5_10) rfl rfl k) ?_
  obtain ⟨c27, Ar27, -, Sz27, Nn27, -, -⟩ := id V1
  have len27 := X0.arraylength hx (by rw [e0]; exact Ar27.1) (State.isArrayOf_alike hZ.alike Ar27.2.1) (g := (mkF m 11 #[.val (.ref b1), .val (.ref b2), .val (.int (8 : Int32))] [(.ref b1), (.int (8 : Int32))])) rfl rfl (hb hby d5_11)
  rw [len_of Sz27 Nn27] at len27
  refine Goes.step (B := s₁.setTop (mkF m 12 #[.val (.ref b1), .val (.ref b2), .val (.int (8 : Int32))] [(.int (10 : Int32)), (.int (8 : Int32))])) len27 ?_
  refine Goes.step (B := s₁.setTop (mkF m 15 #[.val (.ref b1), .val (.ref b2), .val (.int (8 : Int32))] [])) (fun _ k => XS.icmpNo X0.here hx rfl (hb hby d5_12) rfl (tlt (by decide)).2.1 k) ?_
  refine Goes.step (B := s₁.setTop (mkF m 16 #[.val (.ref b1), .val (.ref b2), .val (.int (8 : Int32))] [(.ref b1)])) (fun _ k => XS.aloadN X0.here hx rfl (hb hby d5_15) rfl rfl k) ?_
  refine Goes.step (B := s₁.setTop (mkF m 17 #[.val (.ref b1), .val (.ref b2), .val (.int (8 : Int32))] [(.int (8 : Int32)), (.ref b1)])) (fun _ k => XS.iloadN X0.here hx rfl (hb hby d5_16) rfl k) ?_
  obtain ⟨c28, Ar28, -, Sz28, Nn28, Hs28, -⟩ := id V1
  have hin28 : ¬ ((8 : Int32) < 0 ∨ c28.slots.size ≤ ((8 : Int32)).toNatClampNeg) := inb_of Sz28 ⟨by decide, by decide⟩
  refine Goes.step (B := s₁.setTop (mkF m 18 #[.val (.ref b1), .val (.ref b2), .val (.int (8 : Int32))] [(.int (97 : Int32))])) (X0.baloadBytes hx (j := (8 : Int32)) (v := (.int (97 : Int32))) (by rw [e0]; exact Ar28.1) (State.isArrayOf_alike hZ.alike Ar28.2.1) Ar28.2.2 hin28 (Has.at Hs28 hin28 rfl) (g := (mkF m 17 #[.val (.ref b1), .val (.ref b2), .val (.int (8 : Int32))] [(.int (8 : Int32)), (.ref b1)])) rfl rfl (hb hby d5_17)) ?_
  refine Goes.step (B := s₁.setTop (mkF m 19 #[.val (.ref b1), .val (.ref b2), .val (.int (8 : Int32))] [(.ref b2), (.int (97 : Int32))])) (fun _ k => XS.aloadN X0.here hx rfl (hb hby d5_18) rfl rfl k) ?_
  refine Goes.step (B := s₁.setTop (mkF m 20 #[.val (.ref b1), .val (.ref b2), .val (.int (8 : Int32))] [(.int (8 : Int32)), (.ref b2), (.int (97 : Int32))])) (fun _ k => XS.iloadN X0.here hx rfl (hb hby d5_19) rfl k) ?_
  obtain ⟨c29, Ar29, -, Sz29, Nn29, Hs29, -⟩ := id V2
  have hin29 : ¬ ((8 : Int32) < 0 ∨ c29.slots.size ≤ ((8 : Int32)).toNatClampNeg) := inb_of Sz29 ⟨by decide, by decide⟩
  refine Goes.step (B := s₁.setTop (mkF m 21 #[.val (.ref b1), .val (.ref b2), .val (.int (8 : Int32))] [(.int (97 : Int32)), (.int (97 : Int32))])) (X0.baloadBytes hx (j := (8 : Int32)) (v := (.int (97 : Int32))) (by rw [e0]; exact Ar29.1) (State.isArrayOf_alike hZ.alike Ar29.2.1) Ar29.2.2 hin29 (Has.at Hs29 hin29 rfl) (g := (mkF m 20 #[.val (.ref b1), .val (.ref b2), .val (.int (8 : Int32))] [(.int (8 : Int32)), (.ref b2), (.int (97 : Int32))])) rfl rfl (hb hby d5_20)) ?_
  refine Goes.step (B := s₁.setTop (mkF m 26 #[.val (.ref b1), .val (.ref b2), .val (.int (8 : Int32))] [])) (fun _ k => XS.icmpYes X0.here hx rfl (pc0 := 21) (pc' := 26) rfl (hb hby d5_21) rfl (teq (by decide)).1 (by decide) (by decide) k) ?_
  refine Goes.step (B := s₁.setTop (mkF m 29 #[.val (.ref b1), .val (.ref b2), .val (.int (9 : Int32))] [])) (fun _ k => XS.iinc X0.here hx rfl (hb hby d5_26) rfl (l' := #[.val (.ref b1), .val (.ref b2), .val (.int (9 : Int32))]) rfl k) ?_
  refine Goes.step (B := s₁.setTop (mkF m 9 #[.val (.ref b1), .val (.ref b2), .val (.int (9 : Int32))] [])) (fun _ k => XS.goto X0.here hx rfl (pc0 := 29) (pc' := 9) rfl (hb hby d5_29) (by decide) (by decide) k) ?_
  refine Goes.step (B := s₁.setTop (mkF m 10 #[.val (.ref b1), .val (.ref b2), .val (.int (9 : Int32))] [(.int (9 : Int32))])) (fun _ k => XS.iloadN X0.here hx rfl (hb hby d5_9) rfl k) ?_
  refine Goes.step (B := s₁.setTop (mkF m 11 #[.val (.ref b1), .val (.ref b2), .val (.int (9 : Int32))] [(.ref b1), (.int (9 : Int32))])) (fun _ k => XS.aloadN X0.here hx rfl (hb hby d5_10) rfl rfl k) ?_
  obtain ⟨c30, Ar30, -, Sz30, Nn30, -, -⟩ := id V1
  have len30 := X0.arraylength hx (by rw [e0]; exact Ar30.1) (State.isArrayOf_alike hZ.alike Ar30.2.1) (g := (mkF m 11 #[.val (.ref b1), .val (.ref b2), .val (.int (9 : Int32))] [(.ref b1), (.int (9 : Int32))])) rfl rfl (hb hby d5_11)
  rw [len_of Sz30 Nn30] at len30
  refine Goes.step (B := s₁.setTop (mkF m 12 #[.val (.ref b1), .val (.ref b2), .val (.int (9 : Int32))] [(.int (10 : Int32)), (.int (9 : Int32))])) len30 ?_
  refine Goes.step (B := s₁.setTop (mkF m 15 #[.val (.ref b1), .val (.ref b2), .val (.int (9 : Int32))] [])) (fun _ k => XS.icmpNo X0.here hx rfl (hb hby d5_12) rfl (tlt (by decide)).2.1 k) ?_
  refine Goes.step (B := s₁.setTop (mkF m 16 #[.val (.ref b1), .val (.ref b2), .val (.int (9 : Int32))] [(.ref b1)])) (fun _ k => XS.aloadN X0.here hx rfl (hb hby d5_15) rfl rfl k) ?_
  refine Goes.step (B := s₁.setTop (mkF m 17 #[.val (.ref b1), .val (.ref b2), .val (.int (9 : Int32))] [(.int (9 : Int32)), (.ref b1)])) (fun _ k => XS.iloadN X0.here hx rfl (hb hby d5_16) rfl k) ?_
  obtain ⟨c31, Ar31, -, Sz31, Nn31, Hs31, -⟩ := id V1
  have hin31 : ¬ ((9 : Int32) < 0 ∨ c31.slots.size ≤ ((9 : Int32)).toNatClampNeg) := inb_of Sz31 ⟨by decide, by decide⟩
  refine Goes.step (B := s₁.setTop (mkF m 18 #[.val (.ref b1), .val (.ref b2), .val (.int (9 : Int32))] [(.int (121 : Int32))])) (X0.baloadBytes hx (j := (9 : Int32)) (v := (.int (121 : Int32))) (by rw [e0]; exact Ar31.1) (State.isArrayOf_alike hZ.alike Ar31.2.1) Ar31.2.2 hin31 (Has.at Hs31 hin31 rfl) (g := (mkF m 17 #[.val (.ref b1), .val (.ref b2), .val (.int (9 : Int32))] [(.int (9 : Int32)), (.ref b1)])) rfl rfl (hb hby d5_17)) ?_
  refine Goes.step (B := s₁.setTop (mkF m 19 #[.val (.ref b1), .val (.ref b2), .val (.int (9 : Int32))] [(.ref b2), (.int (121 : Int32))])) (fun _ k => XS.aloadN X0.here hx rfl (hb hby d5_18) rfl rfl k) ?_
  refine Goes.step (B := s₁.setTop (mkF m 20 #[.val (.ref b1), .val (.ref b2), .val (.int (9 : Int32))] [(.int (9 : Int32)), (.ref b2), (.int (121 : Int32))])) (fun _ k => XS.iloadN X0.here hx rfl (hb hby d5_19) rfl k) ?_
  obtain ⟨c32, Ar32, -, Sz32, Nn32, Hs32, -⟩ := id V2
  have hin32 : ¬ ((9 : Int32) < 0 ∨ c32.slots.size ≤ ((9 : Int32)).toNatClampNeg) := inb_of Sz32 ⟨by decide, by decide⟩
  refine Goes.step (B := s₁.setTop (mkF m 21 #[.val (.ref b1), .val (.ref b2), .val (.int (9 : Int32))] [(.int (121 : Int32)), (.int (121 : Int32))])) (X0.baloadBytes hx (j := (9 : Int32)) (v := (.int (121 : Int32))) (by rw [e0]; exact Ar32.1) (State.isArrayOf_alike hZ.alike Ar32.2.1) Ar32.2.2 hin32 (Has.at Hs32 hin32 rfl) (g := (mkF m 20 #[.val (.ref b1), .val (.ref b2), .val (.int (9 : Int32))] [(.int (9 : Int32)), (.ref b2), (.int (121 : Int32))])) rfl rfl (hb hby d5_20)) ?_
  refine Goes.step (B := s₁.setTop (mkF m 26 #[.val (.ref b1), .val (.ref b2), .val (.int (9 : Int32))] [])) (fun _ k => XS.icmpYes X0.here hx rfl (pc0 := 21) (pc' := 26) rfl (hb hby d5_21) rfl (teq (by decide)).1 (by decide) (by decide) k) ?_
  refine Goes.step (B := s₁.setTop (mkF m 29 #[.val (.ref b1), .val (.ref b2), .val (.int (10 : Int32))] [])) (fun _ k => XS.iinc X0.here hx rfl (hb hby d5_26) rfl (l' := #[.val (.ref b1), .val (.ref b2), .val (.int (10 : Int32))]) rfl k) ?_
  refine Goes.step (B := s₁.setTop (mkF m 9 #[.val (.ref b1), .val (.ref b2), .val (.int (10 : Int32))] [])) (fun _ k => XS.goto X0.here hx rfl (pc0 := 29) (pc' := 9) rfl (hb hby d5_29) (by decide) (by decide) k) ?_
  refine Goes.step (B := s₁.setTop (mkF m 10 #[.val (.ref b1), .val (.ref b2), .val (.int (10 : Int32))] [(.int (10 : Int32))])) (fun _ k => XS.iloadN X0.here hx rfl (hb hby d5_9) rfl k) ?_
  refine Goes.step (B := s₁.setTop (mkF m 11 #[.val (.ref b1), .val (.ref b2), .val (.int (10 : Int32))] [(.ref b1), (.int (10 : Int32))])) (fun _ k => XS.aloadN X0.here hx rfl (hb hby d5_10) rfl rfl k) ?_
  obtain ⟨c33, Ar33, -, Sz33, Nn33, -, -⟩ := id V1
  have len33 := X0.arraylength hx (by rw [e0]; exact Ar33.1) (State.isArrayOf_alike hZ.alike Ar33.2.1) (g := (mkF m 11 #[.val (.ref b1), .val (.ref b2), .val (.int (10 : Int32))] [(.ref b1), (.int (10 : Int32))])) rfl rfl (hb hby d5_11)
  rw [len_of Sz33 Nn33] at len33
  refine Goes.step (B := s₁.setTop (mkF m 12 #[.val (.ref b1), .val (.ref b2), .val (.int (10 : Int32))] [(.int (10 : Int32)), (.int (10 : Int32))])) len33 ?_
  refine Goes.step (B := s₁.setTop (mkF m 32 #[.val (.ref b1), .val (.ref b2), .val (.int (10 : Int32))] [])) (fun _ k => XS.icmpYes X0.here hx rfl (pc0 := 12) (pc' := 32) rfl (hb hby d5_12) rfl (flt (by decide)).2.1 (by decide) (by decide) k) ?_
  refine Goes.step (B := s₁.setTop (mkF m 33 #[.val (.ref b1), .val (.ref b2), .val (.int (10 : Int32))] [(.int (1 : Int32))])) (fun _ k => XS.iconst X0.here hx rfl (hb hby d5_32) k) ?_
  exact Goes.retN X0 hx e0 (t := .boolean) Bd.returns (by simp) hlk (hb hby d5_33) (by decide) (by decide) (⟨rfl, N0, rfl⟩)
theorem ef_rmEq2 (m : MethodId) (x0 : Addr) (x1 : Addr) : entryFrame m #[(.ref x0), (.ref x1)] 3 = mkF m 0 #[.val (.ref x0), .val (.ref x1), .unset] [] := by first | (simp [entryFrame, mkF, argsToLocals, Value.category]; done) | rfl
def QEq2 (Z : State) (a1 : Addr) (a2 : Addr) (b1 : Addr) (b2 : Addr) (k1 : ClassId) (k2 : ClassId) (cs : Int32) (h0 : Heap) (n0 : Nat) (v : Option Value) (h : Heap) (L : List Loc) : Prop := v = some (.int (1 : Int32)) ∧ Fr n0 L ∧ h = h0
set_option maxRecDepth 65536 in
set_option maxHeartbeats 40000000 in
theorem rmEq2 (l : Launch) (Z : State) (a0 : Array Value) (hw : ∀ d ∈ tables_1, d.before a0 Z = true) (ws : List Jvm.Cond) (a1 : Addr) (a2 : Addr) (b1 : Addr) (b2 : Addr) (k1 : ClassId) (k2 : ClassId) (cs : Int32) (h0 : Heap) (n0 : Nat) (O0 : Old Z n0 h0) (Sc : Sta Z h0 "java/lang/String" "COMPACT_STRINGS" "Z" (.int cs)) (hcs : ¬ cs = (0 : Int32)) (E2 : Exa Z h0 a2 "java/lang/String") (Fc1 : Fld Z h0 a1 "java/lang/String" "coder" "B" (.int (0 : Int32))) (Fv1 : Fld Z h0 a1 "java/lang/String" "value" "[B" (.ref b1)) (V1 : Arv Z h0 b1 k1 .byte (10 : Int32) [.int (70 : Int32), .int (114 : Int32), .int (111 : Int32), .int (110 : Int32), .int (116 : Int32), .int (32 : Int32), .int (71 : Int32), .int (114 : Int32), .int (97 : Int32), .int (121 : Int32)] (.int (0 : Int32))) (Fc2 : Fld Z h0 a2 "java/lang/String" "coder" "B" (.int (0 : Int32))) (Fv2 : Fld Z h0 a2 "java/lang/String" "value" "[B" (.ref b2)) (V2 : Arv Z h0 b2 k2 .byte (10 : Int32) [.int (70 : Int32), .int (114 : Int32), .int (111 : Int32), .int (110 : Int32), .int (116 : Int32), .int (32 : Int32), .int (71 : Int32), .int (114 : Int32), .int (97 : Int32), .int (121 : Int32)] (.int (0 : Int32))) :
    MetFree l (⟨"java/lang/String", "equals", "(Ljava/lang/Object;)Z"⟩ : MethodName) (head1 (Jvm.Cond.code (⟨"java/lang/String", "equals", "(Ljava/lang/Object;)Z"⟩ : MethodName) jdk_42_method_66_code 3 (some .boolean) :: ws) ({ frames := 1, cells := 0, slots := 0, locals := 14 } : Room)) (fun a U => a = #[(.ref a1), (.ref a2)] ∧ Z.Warmed39 U.vm ∧ U.heap = h0) (fun _ _ _ _ _ => True) (fun _ U o U' => ∃ v L, o = .returned v ∧ QEq2 Z a1 a2 b1 b2 k1 k2 cs h0 n0 v U'.heap L ∧ FrameEnd U o U' L ({ frames := 1, cells := 0, slots := 0, locals := 14 } : Room).cells ({ frames := 1, cells := 0, slots := 0, locals := 14 } : Room).slots) := by
  refine MetFree.of_bodySF (plainFor_of_name pn_String) hisR ?_
  intro p e s m args below meth c s₁ Bd hml0 hP hK
  obtain ⟨rfl, hZ, hh⟩ := hP
  have hx := Bd.exec
  have hby := Bd.bytes
  have hlk : meth.locks = false := BodyLoose.notSynchronized Bd
  have hml : c.maxLocals = 3 := hml0
  have hown : s.vm.findClass "java/lang/String" = some m.cls := findClass_of_methodNamed Bd.named
  have hnm := (name_of_methodNamed Bd.named Bd.method).1
  have X0 : Stand p l e ({ frames := 1, cells := 0, slots := 0, locals := 14 } : Room) s m #[(.ref a1), (.ref a2)] below meth c s₁ [] 0 0 := Stand.of_body Bd
  have e0 : s₁.heap = h0 := by rw [← hh, Bd.state]; rfl
  have N0 := Fr.nil n0
  show Goes p e below s (QEq2 Z a1 a2 b1 b2 k1 k2 cs h0 n0) ({ frames := 1, cells := 0, slots := 0, locals := 14 } : Room).cells ({ frames := 1, cells := 0, slots := 0, locals := 14 } : Room).slots (s₁.setTop (entryFrame m #[(.ref a1), (.ref a2)] 3))
  refine Goes.enter (g' := (mkF m 0 #[.val (.ref a1), .val (.ref a2), .unset] [])) (ef_rmEq2 m a1 a2) ?_
  refine Goes.step (B := s₁.setTop (mkF m 1 #[.val (.ref a1), .val (.ref a2), .unset] [(.ref a1)])) (fun _ k => XS.aloadN X0.here hx rfl (hb hby d4_0) rfl rfl k) ?_
  refine Goes.step (B := s₁.setTop (mkF m 2 #[.val (.ref a1), .val (.ref a2), .unset] [(.ref a2), (.ref a1)])) (fun _ k => XS.aloadN X0.here hx rfl (hb hby d4_1) rfl rfl k) ?_
  by_cases hc2_0 : a1 = a2
  · refine Goes.step (B := s₁.setTop (mkF m 5 #[.val (.ref a1), .val (.ref a2), .unset] [])) (fun _ k => Jvm.RoadKit.acmp (g := (mkF m 2 #[.val (.ref a1), .val (.ref a2), .unset] [(.ref a2), (.ref a1)])) X0 hx rfl rfl rfl (pc0 := 2) (pc' := 5) (same := true) rfl (hb hby d4_2) rfl (decide_eq_true (congrArg Value.ref hc2_0)) (by decide) (by decide) k) ?_
    refine Goes.step (B := s₁.setTop (mkF m 6 #[.val (.ref a1), .val (.ref a2), .unset] [(.int (1 : Int32))])) (fun _ k => XS.iconst X0.here hx rfl (hb hby d4_5) k) ?_
    exact Goes.retN X0 hx e0 (t := .boolean) Bd.returns (by simp) hlk (hb hby d4_6) (by decide) (by decide) (⟨rfl, N0, rfl⟩)
  · refine Goes.step (B := s₁.setTop (mkF m 7 #[.val (.ref a1), .val (.ref a2), .unset] [])) (fun _ k => Jvm.RoadKit.acmp (g := (mkF m 2 #[.val (.ref a1), .val (.ref a2), .unset] [(.ref a2), (.ref a1)])) X0 hx rfl rfl rfl (pc0 := 2) (pc' := 7) (same := false) rfl (hb hby d4_2) rfl (decide_eq_false fun q => hc2_0 (Value.ref.inj q)) (by decide) (by decide) k) ?_
    refine Goes.step (B := s₁.setTop (mkF m 8 #[.val (.ref a1), .val (.ref a2), .unset] [(.ref a2)])) (fun _ k => XS.aloadN X0.here hx rfl (hb hby d4_7) rfl rfl k) ?_
    obtain ⟨T2, X2, e2, st2⟩ := instY X0 hx hZ hown (hw _ (List.mem_of_getElem? (i := 44) rfl)) e0 (Ins.self E2) (g := (mkF m 8 #[.val (.ref a1), .val (.ref a2), .unset] [(.ref a2)])) rfl rfl (hb hby d4_8)
    refine Goes.step (B := T2.setTop (mkF m 11 #[.val (.ref a1), .val (.ref a2), .unset] [(.int (1 : Int32))])) st2 ?_
    refine Goes.step (B := T2.setTop (mkF m 14 #[.val (.ref a1), .val (.ref a2), .unset] [])) (fun _ k => XS.ifNo X2.here hx rfl (hb hby d4_11) rfl ((if0 _ _).trans (feq (by decide)).1) k) ?_
    refine Goes.step (B := T2.setTop (mkF m 15 #[.val (.ref a1), .val (.ref a2), .unset] [(.ref a2)])) (fun _ k => XS.aloadN X2.here hx rfl (hb hby d4_14) rfl rfl k) ?_
    obtain ⟨T3, X3, e3, st3⟩ := castY X2 hx hZ hown (hw _ (List.mem_of_getElem? (i := 44) rfl)) e2 (Ins.self E2) (g := (mkF m 15 #[.val (.ref a1), .val (.ref a2), .unset] [(.ref a2)])) rfl rfl (hb hby d4_15)
    refine Goes.step (B := T3.setTop (mkF m 18 #[.val (.ref a1), .val (.ref a2), .unset] [(.ref a2)])) st3 ?_
    refine Goes.step (B := T3.setTop (mkF m 19 #[.val (.ref a1), .val (.ref a2), .val (.ref a2)] [])) (fun _ k => XS.astoreN X3.here hx rfl (hb hby d4_18) rfl rfl (l' := #[.val (.ref a1), .val (.ref a2), .val (.ref a2)]) rfl k) ?_
    obtain ⟨T4, X4, e4, st4⟩ := getS2 X3 hx hZ hown (host := "") (Or.inl (hw _ (List.mem_of_getElem? (i := 45) rfl))) Via.refl e3 Sc (g := (mkF m 19 #[.val (.ref a1), .val (.ref a2), .val (.ref a2)] [])) rfl (hb hby d4_19)
    refine Goes.step (B := T4.setTop (mkF m 22 #[.val (.ref a1), .val (.ref a2), .val (.ref a2)] [(.int cs)])) st4 ?_
    refine Goes.step (B := T4.setTop (mkF m 25 #[.val (.ref a1), .val (.ref a2), .val (.ref a2)] [])) (fun _ k => XS.ifNo X4.here hx rfl (hb hby d4_22) rfl ((if0 _ _).trans (feq hcs).1) k) ?_
    refine Goes.step (B := T4.setTop (mkF m 26 #[.val (.ref a1), .val (.ref a2), .val (.ref a2)] [(.ref a1)])) (fun _ k => XS.aloadN X4.here hx rfl (hb hby d4_25) rfl rfl k) ?_
    obtain ⟨T5, X5, e5, st5⟩ := getF X4 hx hZ hown (host := "") (Or.inl (hw _ (List.mem_of_getElem? (i := 46) rfl))) Via.refl e4 Fc1 (g := (mkF m 26 #[.val (.ref a1), .val (.ref a2), .val (.ref a2)] [(.ref a1)])) rfl rfl (hb hby d4_26)
    refine Goes.step (B := T5.setTop (mkF m 29 #[.val (.ref a1), .val (.ref a2), .val (.ref a2)] [(.int (0 : Int32))])) st5 ?_
    refine Goes.step (B := T5.setTop (mkF m 30 #[.val (.ref a1), .val (.ref a2), .val (.ref a2)] [(.ref a2), (.int (0 : Int32))])) (fun _ k => XS.aloadN X5.here hx rfl (hb hby d4_29) rfl rfl k) ?_
    obtain ⟨T6, X6, e6, st6⟩ := getF X5 hx hZ hown (host := "") (Or.inl (hw _ (List.mem_of_getElem? (i := 46) rfl))) Via.refl e5 Fc2 (g := (mkF m 30 #[.val (.ref a1), .val (.ref a2), .val (.ref a2)] [(.ref a2), (.int (0 : Int32))])) rfl rfl (hb hby d4_30)
    refine Goes.step (B := T6.setTop (mkF m 33 #[.val (.ref a1), .val (.ref a2), .val (.ref a2)] [(.int (0 : Int32)), (.int (0 : Int32))])) st6 ?_
    refine Goes.step (B := T6.setTop (mkF m 36 #[.val (.ref a1), .val (.ref a2), .val (.ref a2)] [])) (fun _ k => XS.icmpNo X6.here hx rfl (hb hby d4_33) rfl (teq (by decide)).2 k) ?_
    refine Goes.step (B := T6.setTop (mkF m 37 #[.val (.ref a1), .val (.ref a2), .val (.ref a2)] [(.ref a1)])) (fun _ k => XS.aloadN X6.here hx rfl (hb hby d4_36) rfl rfl k) ?_
    obtain ⟨T7, X7, e7, st7⟩ := getF X6 hx hZ hown (host := "") (Or.inl (hw _ (List.mem_of_getElem? (i := 47) rfl))) Via.refl e6 Fv1 (g := (mkF m 37 #[.val (.ref a1), .val (.ref a2), .val (.ref a2)] [(.ref a1)])) rfl rfl (hb hby d4_37)
    refine Goes.step (B := T7.setTop (mkF m 40 #[.val (.ref a1), .val (.ref a2), .val (.ref a2)] [(.ref b1)])) st7 ?_
    refine Goes.step (B := T7.setTop (mkF m 41 #[.val (.ref a1), .val (.ref a2), .val (.ref a2)] [(.ref a2), (.ref b1)])) (fun _ k => XS.aloadN X7.here hx rfl (hb hby d4_40) rfl rfl k) ?_
    obtain ⟨T8, X8, e8, st8⟩ := getF X7 hx hZ hown (host := "") (Or.inl (hw _ (List.mem_of_getElem? (i := 47) rfl))) Via.refl e7 Fv2 (g := (mkF m 41 #[.val (.ref a1), .val (.ref a2), .val (.ref a2)] [(.ref a2), (.ref b1)])) rfl rfl (hb hby d4_41)
    refine Goes.step (B := T8.setTop (mkF m 44 #[.val (.ref a1), .val (.ref a2), .val (.ref a2)] [(.ref b2), (.ref b1)])) st8 ?_
    obtain ⟨_, _, ⟨T9, L9, k9, n9⟩, -, X9, ⟨Lc9, hQ9, l9, y9, z9⟩, st9⟩ := Jvm.LawKit.callS X8 hx (y := (⟨"java/lang/StringLatin1", "equals", "([B[B)Z"⟩ : MethodName)) hown (mvT hZ (hw _ (List.mem_of_getElem? (i := 48) rfl))) (mvT hZ (hw _ (List.mem_of_getElem? (i := 49) rfl))) (mvT hZ (hw _ (List.mem_of_getElem? (i := 50) rfl))) (mvT hZ (hw _ (List.mem_of_getElem? (i := 51) rfl))) (by decide) (backOf (W := 0) (rmLq2 l Z a0 hw [] b1 b2 k1 k2 h0 n0 O0 V1 V2) hZ (hw _ (List.mem_of_getElem? (i := 51) rfl)) (hw _ (List.mem_of_getElem? (i := 50) rfl)) (by decide) (by decide)) (g := (mkF m 44 #[.val (.ref a1), .val (.ref a2), .val (.ref a2)] [(.ref b2), (.ref b1)])) rfl (by rw [hml]; rfl) (argsL := [(.ref b1), (.ref b2)]) (rest := []) (lenOf pd_1 rfl) rfl (by show 2 * 0 + _ ≤ _; exact Nat.le_of_eq rfl) (hb hby d4_44) (fun _ _ => ⟨rfl, e8, (by decide : 0 + 0 ≤ _), (by decide : 0 + 0 ≤ _)⟩)
    dsimp only [Pt.U, Pt.locs, Pt.cells, Pt.slots] at X9 l9 y9 z9 st9 hQ9
    subst l9 y9 z9
    obtain ⟨rfl, Nq9, eh9⟩ := hQ9
    have N9 := Fr.app N0 Nq9
    refine Goes.step (B := T9.setTop (mkF m 47 #[.val (.ref a1), .val (.ref a2), .val (.ref a2)] [(.int (1 : Int32))])) st9 ?_
    refine Goes.step (B := T9.setTop (mkF m 50 #[.val (.ref a1), .val (.ref a2), .val (.ref a2)] [])) (fun _ k => XS.ifNo X9.here hx rfl (hb hby d4_47) rfl ((if0 _ _).trans (feq (by decide)).1) k) ?_
    refine Goes.step (B := T9.setTop (mkF m 51 #[.val (.ref a1), .val (.ref a2), .val (.ref a2)] [(.int (1 : Int32))])) (fun _ k => XS.iconst X9.here hx rfl (hb hby d4_50) k) ?_
    refine Goes.step (B := T9.setTop (mkF m 55 #[.val (.ref a1), .val (.ref a2), .val (.ref a2)] [(.int (1 : Int32))])) (fun _ k => XS.goto X9.here hx rfl (pc0 := 51) (pc' := 55) rfl (hb hby d4_51) (by decide) (by decide) k) ?_
    exact Goes.retN X9 hx eh9 (t := .boolean) Bd.returns (by simp) hlk (hb hby d4_55) (by decide) (by decide) (⟨rfl, N9, rfl⟩)
theorem d5_34 : decode jdk_43_method_13_code 34 = .ok (.iconst 0, 1) := by decide +kernel
theorem d5_35 : decode jdk_43_method_13_code 35 = .ok (.ireturn, 1) := by decide +kernel
theorem ef_rmLd01 (m : MethodId) (x0 : Addr) (x1 : Addr) : entryFrame m #[(.ref x0), (.ref x1)] 3 = mkF m 0 #[.val (.ref x0), .val (.ref x1), .unset] [] := by first | (simp [entryFrame, mkF, argsToLocals, Value.category]; done) | rfl
def QLd01 (Z : State) (b1 : Addr) (b2 : Addr) (k1 : ClassId) (k2 : ClassId) (h0 : Heap) (n0 : Nat) (v : Option Value) (h : Heap) (L : List Loc) : Prop := v = some (.int (0 : Int32)) ∧ Fr n0 L ∧ h = h0
set_option maxRecDepth 65536 in
set_option maxHeartbeats 40000000 in
theorem rmLd01 (l : Launch) (Z : State) (a0 : Array Value) (hw : ∀ d ∈ tables_1, d.before a0 Z = true) (ws : List Jvm.Cond) (b1 : Addr) (b2 : Addr) (k1 : ClassId) (k2 : ClassId) (h0 : Heap) (n0 : Nat) (O0 : Old Z n0 h0) (V1 : Arv Z h0 b1 k1 .byte (8 : Int32) [.int (70 : Int32), .int (114 : Int32), .int (111 : Int32), .int (110 : Int32), .int (116 : Int32), .int (32 : Int32), .int (66 : Int32), .int (87 : Int32)] (.int (0 : Int32))) (V2 : Arv Z h0 b2 k2 .byte (7 : Int32) [.int (66 : Int32), .int (97 : Int32), .int (99 : Int32), .int (107 : Int32), .int (32 : Int32), .int (66 : Int32), .int (87 : Int32)] (.int (0 : Int32))) :
    MetFree l (⟨"java/lang/StringLatin1", "equals", "([B[B)Z"⟩ : MethodName) (head1 (Jvm.Cond.code (⟨"java/lang/StringLatin1", "equals", "([B[B)Z"⟩ : MethodName) jdk_43_method_13_code 3 (some .boolean) :: ws) ({ frames := 0, cells := 0, slots := 0, locals := 0 } : Room)) (fun a U => a = #[(.ref b1), (.ref b2)] ∧ Z.Warmed39 U.vm ∧ U.heap = h0) (fun _ _ _ _ _ => True) (fun _ U o U' => ∃ v L, o = .returned v ∧ QLd01 Z b1 b2 k1 k2 h0 n0 v U'.heap L ∧ FrameEnd U o U' L ({ frames := 0, cells := 0, slots := 0, locals := 0 } : Room).cells ({ frames := 0, cells := 0, slots := 0, locals := 0 } : Room).slots) := by
  refine MetFree.of_bodySF (plainFor_of_name pn_StringLatin1) hisR ?_
  intro p e s m args below meth c s₁ Bd hml0 hP hK
  obtain ⟨rfl, hZ, hh⟩ := hP
  have hx := Bd.exec
  have hby := Bd.bytes
  have hlk : meth.locks = false := BodyLoose.notSynchronized Bd
  have hml : c.maxLocals = 3 := hml0
  have hown : s.vm.findClass "java/lang/StringLatin1" = some m.cls := findClass_of_methodNamed Bd.named
  have hnm := (name_of_methodNamed Bd.named Bd.method).1
  have X0 : Stand p l e ({ frames := 0, cells := 0, slots := 0, locals := 0 } : Room) s m #[(.ref b1), (.ref b2)] below meth c s₁ [] 0 0 := Stand.of_body Bd
  have e0 : s₁.heap = h0 := by rw [← hh, Bd.state]; rfl
  have N0 := Fr.nil n0
  show Goes p e below s (QLd01 Z b1 b2 k1 k2 h0 n0) ({ frames := 0, cells := 0, slots := 0, locals := 0 } : Room).cells ({ frames := 0, cells := 0, slots := 0, locals := 0 } : Room).slots (s₁.setTop (entryFrame m #[(.ref b1), (.ref b2)] 3))
  refine Goes.enter (g' := (mkF m 0 #[.val (.ref b1), .val (.ref b2), .unset] [])) (ef_rmLd01 m b1 b2) ?_
  refine Goes.step (B := s₁.setTop (mkF m 1 #[.val (.ref b1), .val (.ref b2), .unset] [(.ref b1)])) (fun _ k => XS.aloadN X0.here hx rfl (hb hby d5_0) rfl rfl k) ?_
  obtain ⟨c1, Ar1, -, Sz1, Nn1, -, -⟩ := id V1
  have len1 := X0.arraylength hx (by rw [e0]; exact Ar1.1) (State.isArrayOf_alike hZ.alike Ar1.2.1) (g := (mkF m 1 #[.val (.ref b1), .val (.ref b2), .unset] [(.ref b1)])) rfl rfl (hb hby d5_1)
  rw [len_of Sz1 Nn1] at len1
  refine Goes.step (B := s₁.setTop (mkF m 2 #[.val (.ref b1), .val (.ref b2), .unset] [(.int (8 : Int32))])) len1 ?_
  refine Goes.step (B := s₁.setTop (mkF m 3 #[.val (.ref b1), .val (.ref b2), .unset] [(.ref b2), (.int (8 : Int32))])) (fun _ k => XS.aloadN X0.here hx rfl (hb hby d5_2) rfl rfl k) ?_
  obtain ⟨c2, Ar2, -, Sz2, Nn2, -, -⟩ := id V2
  have len2 := X0.arraylength hx (by rw [e0]; exact Ar2.1) (State.isArrayOf_alike hZ.alike Ar2.2.1) (g := (mkF m 3 #[.val (.ref b1), .val (.ref b2), .unset] [(.ref b2), (.int (8 : Int32))])) rfl rfl (hb hby d5_3)
  rw [len_of Sz2 Nn2] at len2
  refine Goes.step (B := s₁.setTop (mkF m 4 #[.val (.ref b1), .val (.ref b2), .unset] [(.int (7 : Int32)), (.int (8 : Int32))])) len2 ?_
  refine Goes.step (B := s₁.setTop (mkF m 34 #[.val (.ref b1), .val (.ref b2), .unset] [])) (fun _ k => XS.icmpYes X0.here hx rfl (pc0 := 4) (pc' := 34) rfl (hb hby d5_4) rfl (feq (by decide)).2 (by decide) (by decide) k) ?_
  refine Goes.step (B := s₁.setTop (mkF m 35 #[.val (.ref b1), .val (.ref b2), .unset] [(.int (0 : Int32))])) (fun _ k => XS.iconst X0.here hx rfl (hb hby d5_34) k) ?_
  exact Goes.retN X0 hx e0 (t := .boolean) Bd.returns (by simp) hlk (hb hby d5_35) (by decide) (by decide) (⟨rfl, N0, rfl⟩)
theorem d4_54 : decode jdk_42_method_66_code 54 = .ok (.iconst 0, 1) := by decide +kernel
theorem ef_rmEd01 (m : MethodId) (x0 : Addr) (x1 : Addr) : entryFrame m #[(.ref x0), (.ref x1)] 3 = mkF m 0 #[.val (.ref x0), .val (.ref x1), .unset] [] := by first | (simp [entryFrame, mkF, argsToLocals, Value.category]; done) | rfl
def QEd01 (Z : State) (a1 : Addr) (a2 : Addr) (b1 : Addr) (b2 : Addr) (k1 : ClassId) (k2 : ClassId) (cs : Int32) (h0 : Heap) (n0 : Nat) (v : Option Value) (h : Heap) (L : List Loc) : Prop := v = some (.int (0 : Int32)) ∧ Fr n0 L ∧ h = h0
set_option maxRecDepth 65536 in
set_option maxHeartbeats 40000000 in
theorem rmEd01 (l : Launch) (Z : State) (a0 : Array Value) (hw : ∀ d ∈ tables_1, d.before a0 Z = true) (ws : List Jvm.Cond) (a1 : Addr) (a2 : Addr) (b1 : Addr) (b2 : Addr) (k1 : ClassId) (k2 : ClassId) (cs : Int32) (h0 : Heap) (n0 : Nat) (O0 : Old Z n0 h0) (Sc : Sta Z h0 "java/lang/String" "COMPACT_STRINGS" "Z" (.int cs)) (hcs : ¬ cs = (0 : Int32)) (E2 : Exa Z h0 a2 "java/lang/String") (Fc1 : Fld Z h0 a1 "java/lang/String" "coder" "B" (.int (0 : Int32))) (Fv1 : Fld Z h0 a1 "java/lang/String" "value" "[B" (.ref b1)) (V1 : Arv Z h0 b1 k1 .byte (8 : Int32) [.int (70 : Int32), .int (114 : Int32), .int (111 : Int32), .int (110 : Int32), .int (116 : Int32), .int (32 : Int32), .int (66 : Int32), .int (87 : Int32)] (.int (0 : Int32))) (Fc2 : Fld Z h0 a2 "java/lang/String" "coder" "B" (.int (0 : Int32))) (Fv2 : Fld Z h0 a2 "java/lang/String" "value" "[B" (.ref b2)) (V2 : Arv Z h0 b2 k2 .byte (7 : Int32) [.int (66 : Int32), .int (97 : Int32), .int (99 : Int32), .int (107 : Int32), .int (32 : Int32), .int (66 : Int32), .int (87 : Int32)] (.int (0 : Int32))) :
    MetFree l (⟨"java/lang/String", "equals", "(Ljava/lang/Object;)Z"⟩ : MethodName) (head1 (Jvm.Cond.code (⟨"java/lang/String", "equals", "(Ljava/lang/Object;)Z"⟩ : MethodName) jdk_42_method_66_code 3 (some .boolean) :: ws) ({ frames := 1, cells := 0, slots := 0, locals := 14 } : Room)) (fun a U => a = #[(.ref a1), (.ref a2)] ∧ Z.Warmed39 U.vm ∧ U.heap = h0) (fun _ _ _ _ _ => True) (fun _ U o U' => ∃ v L, o = .returned v ∧ QEd01 Z a1 a2 b1 b2 k1 k2 cs h0 n0 v U'.heap L ∧ FrameEnd U o U' L ({ frames := 1, cells := 0, slots := 0, locals := 14 } : Room).cells ({ frames := 1, cells := 0, slots := 0, locals := 14 } : Room).slots) := by
  refine MetFree.of_bodySF (plainFor_of_name pn_String) hisR ?_
  intro p e s m args below meth c s₁ Bd hml0 hP hK
  obtain ⟨rfl, hZ, hh⟩ := hP
  have hx := Bd.exec
  have hby := Bd.bytes
  have hlk : meth.locks = false := BodyLoose.notSynchronized Bd
  have hml : c.maxLocals = 3 := hml0
  have hown : s.vm.findClass "java/lang/String" = some m.cls := findClass_of_methodNamed Bd.named
  have hnm := (name_of_methodNamed Bd.named Bd.method).1
  have X0 : Stand p l e ({ frames := 1, cells := 0, slots := 0, locals := 14 } : Room) s m #[(.ref a1), (.ref a2)] below meth c s₁ [] 0 0 := Stand.of_body Bd
  have e0 : s₁.heap = h0 := by rw [← hh, Bd.state]; rfl
  have N0 := Fr.nil n0
  show Goes p e below s (QEd01 Z a1 a2 b1 b2 k1 k2 cs h0 n0) ({ frames := 1, cells := 0, slots := 0, locals := 14 } : Room).cells ({ frames := 1, cells := 0, slots := 0, locals := 14 } : Room).slots (s₁.setTop (entryFrame m #[(.ref a1), (.ref a2)] 3))
  refine Goes.enter (g' := (mkF m 0 #[.val (.ref a1), .val (.ref a2), .unset] [])) (ef_rmEd01 m a1 a2) ?_
  have nab : a1 ≠ a2 := Fld.ne Fv1 Fv2 (own_refne (own_neV V1 V2 (by decide)))
  refine Goes.step (B := s₁.setTop (mkF m 1 #[.val (.ref a1), .val (.ref a2), .unset] [(.ref a1)])) (fun _ k => XS.aloadN X0.here hx rfl (hb hby d4_0) rfl rfl k) ?_
  refine Goes.step (B := s₁.setTop (mkF m 2 #[.val (.ref a1), .val (.ref a2), .unset] [(.ref a2), (.ref a1)])) (fun _ k => XS.aloadN X0.here hx rfl (hb hby d4_1) rfl rfl k) ?_
  refine Goes.step (B := s₁.setTop (mkF m 7 #[.val (.ref a1), .val (.ref a2), .unset] [])) (fun _ k => Jvm.RoadKit.acmp (g := (mkF m 2 #[.val (.ref a1), .val (.ref a2), .unset] [(.ref a2), (.ref a1)])) X0 hx rfl rfl rfl (pc0 := 2) (pc' := 7) (same := false) rfl (hb hby d4_2) rfl (decide_eq_false fun q => nab (Value.ref.inj q)) (by decide) (by decide) k) ?_
  refine Goes.step (B := s₁.setTop (mkF m 8 #[.val (.ref a1), .val (.ref a2), .unset] [(.ref a2)])) (fun _ k => XS.aloadN X0.here hx rfl (hb hby d4_7) rfl rfl k) ?_
  obtain ⟨T1, X1, e1, st1⟩ := instY X0 hx hZ hown (hw _ (List.mem_of_getElem? (i := 44) rfl)) e0 (Ins.self E2) (g := (mkF m 8 #[.val (.ref a1), .val (.ref a2), .unset] [(.ref a2)])) rfl rfl (hb hby d4_8)
  refine Goes.step (B := T1.setTop (mkF m 11 #[.val (.ref a1), .val (.ref a2), .unset] [(.int (1 : Int32))])) st1 ?_
  refine Goes.step (B := T1.setTop (mkF m 14 #[.val (.ref a1), .val (.ref a2), .unset] [])) (fun _ k => XS.ifNo X1.here hx rfl (hb hby d4_11) rfl ((if0 _ _).trans (feq (by decide)).1) k) ?_
  refine Goes.step (B := T1.setTop (mkF m 15 #[.val (.ref a1), .val (.ref a2), .unset] [(.ref a2)])) (fun _ k => XS.aloadN X1.here hx rfl (hb hby d4_14) rfl rfl k) ?_
  obtain ⟨T2, X2, e2, st2⟩ := castY X1 hx hZ hown (hw _ (List.mem_of_getElem? (i := 44) rfl)) e1 (Ins.self E2) (g := (mkF m 15 #[.val (.ref a1), .val (.ref a2), .unset] [(.ref a2)])) rfl rfl (hb hby d4_15)
  refine Goes.step (B := T2.setTop (mkF m 18 #[.val (.ref a1), .val (.ref a2), .unset] [(.ref a2)])) st2 ?_
  refine Goes.step (B := T2.setTop (mkF m 19 #[.val (.ref a1), .val (.ref a2), .val (.ref a2)] [])) (fun _ k => XS.astoreN X2.here hx rfl (hb hby d4_18) rfl rfl (l' := #[.val (.ref a1), .val (.ref a2), .val (.ref a2)]) rfl k) ?_
  obtain ⟨T3, X3, e3, st3⟩ := getS2 X2 hx hZ hown (host := "") (Or.inl (hw _ (List.mem_of_getElem? (i := 45) rfl))) Via.refl e2 Sc (g := (mkF m 19 #[.val (.ref a1), .val (.ref a2), .val (.ref a2)] [])) rfl (hb hby d4_19)
  refine Goes.step (B := T3.setTop (mkF m 22 #[.val (.ref a1), .val (.ref a2), .val (.ref a2)] [(.int cs)])) st3 ?_
  refine Goes.step (B := T3.setTop (mkF m 25 #[.val (.ref a1), .val (.ref a2), .val (.ref a2)] [])) (fun _ k => XS.ifNo X3.here hx rfl (hb hby d4_22) rfl ((if0 _ _).trans (feq hcs).1) k) ?_
  refine Goes.step (B := T3.setTop (mkF m 26 #[.val (.ref a1), .val (.ref a2), .val (.ref a2)] [(.ref a1)])) (fun _ k => XS.aloadN X3.here hx rfl (hb hby d4_25) rfl rfl k) ?_
  obtain ⟨T4, X4, e4, st4⟩ := getF X3 hx hZ hown (host := "") (Or.inl (hw _ (List.mem_of_getElem? (i := 46) rfl))) Via.refl e3 Fc1 (g := (mkF m 26 #[.val (.ref a1), .val (.ref a2), .val (.ref a2)] [(.ref a1)])) rfl rfl (hb hby d4_26)
  refine Goes.step (B := T4.setTop (mkF m 29 #[.val (.ref a1), .val (.ref a2), .val (.ref a2)] [(.int (0 : Int32))])) st4 ?_
  refine Goes.step (B := T4.setTop (mkF m 30 #[.val (.ref a1), .val (.ref a2), .val (.ref a2)] [(.ref a2), (.int (0 : Int32))])) (fun _ k => XS.aloadN X4.here hx rfl (hb hby d4_29) rfl rfl k) ?_
  obtain ⟨T5, X5, e5, st5⟩ := getF X4 hx hZ hown (host := "") (Or.inl (hw _ (List.mem_of_getElem? (i := 46) rfl))) Via.refl e4 Fc2 (g := (mkF m 30 #[.val (.ref a1), .val (.ref a2), .val (.ref a2)] [(.ref a2), (.int (0 : Int32))])) rfl rfl (hb hby d4_30)
  refine Goes.step (B := T5.setTop (mkF m 33 #[.val (.ref a1), .val (.ref a2), .val (.ref a2)] [(.int (0 : Int32)), (.int (0 : Int32))])) st5 ?_
  refine Goes.step (B := T5.setTop (mkF m 36 #[.val (.ref a1), .val (.ref a2), .val (.ref a2)] [])) (fun _ k => XS.icmpNo X5.here hx rfl (hb hby d4_33) rfl (teq (by decide)).2 k) ?_
  refine Goes.step (B := T5.setTop (mkF m 37 #[.val (.ref a1), .val (.ref a2), .val (.ref a2)] [(.ref a1)])) (fun _ k => XS.aloadN X5.here hx rfl (hb hby d4_36) rfl rfl k) ?_
  obtain ⟨T6, X6, e6, st6⟩ := getF X5 hx hZ hown (host := "") (Or.inl (hw _ (List.mem_of_getElem? (i := 47) rfl))) Via.refl e5 Fv1 (g := (mkF m 37 #[.val (.ref a1), .val (.ref a2), .val (.ref a2)] [(.ref a1)])) rfl rfl (hb hby d4_37)
  refine Goes.step (B := T6.setTop (mkF m 40 #[.val (.ref a1), .val (.ref a2), .val (.ref a2)] [(.ref b1)])) st6 ?_
  refine Goes.step (B := T6.setTop (mkF m 41 #[.val (.ref a1), .val (.ref a2), .val (.ref a2)] [(.ref a2), (.ref b1)])) (fun _ k => XS.aloadN X6.here hx rfl (hb hby d4_40) rfl rfl k) ?_
  obtain ⟨T7, X7, e7, st7⟩ := getF X6 hx hZ hown (host := "") (Or.inl (hw _ (List.mem_of_getElem? (i := 47) rfl))) Via.refl e6 Fv2 (g := (mkF m 41 #[.val (.ref a1), .val (.ref a2), .val (.ref a2)] [(.ref a2), (.ref b1)])) rfl rfl (hb hby d4_41)
  refine Goes.step (B := T7.setTop (mkF m 44 #[.val (.ref a1), .val (.ref a2), .val (.ref a2)] [(.ref b2), (.ref b1)])) st7 ?_
  obtain ⟨_, _, ⟨T8, L8, k8, n8⟩, -, X8, ⟨Lc8, hQ8, l8, y8, z8⟩, st8⟩ := Jvm.LawKit.callS X7 hx (y := (⟨"java/lang/StringLatin1", "equals", "([B[B)Z"⟩ : MethodName)) hown (mvT hZ (hw _ (List.mem_of_getElem? (i := 48) rfl))) (mvT hZ (hw _ (List.mem_of_getElem? (i := 49) rfl))) (mvT hZ (hw _ (List.mem_of_getElem? (i := 50) rfl))) (mvT hZ (hw _ (List.mem_of_getElem? (i := 51) rfl))) (by decide) (backOf (W := 0) (rmLd01 l Z a0 hw [] b1 b2 k1 k2 h0 n0 O0 V1 V2) hZ (hw _ (List.mem_of_getElem? (i := 51) rfl)) (hw _ (List.mem_of_getElem? (i := 50) rfl)) (by decide) (by decide)) (g := (mkF m 44 #[.val (.ref a1), .val (.ref a2), .val (.ref a2)] [(.ref b2), (.ref b1)])) rfl (by rw [hml]; rfl) (argsL := [(.ref b1), (.ref b2)]) (rest := []) (lenOf pd_1 rfl) rfl (by show 2 * 0 + _ ≤ _; exact Nat.le_of_eq rfl) (hb hby d4_44) (fun _ _ => ⟨rfl, e7, (by decide : 0 + 0 ≤ _), (by decide : 0 + 0 ≤ _)⟩)
  dsimp only [Pt.U, Pt.locs, Pt.cells, Pt.slots] at X8 l8 y8 z8 st8 hQ8
  subst l8 y8 z8
  obtain ⟨rfl, Nq8, eh8⟩ := hQ8
  have N8 := Fr.app N0 Nq8
  refine Goes.step (B := T8.setTop (mkF m 47 #[.val (.ref a1), .val (.ref a2), .val (.ref a2)] [(.int (0 : Int32))])) st8 ?_
  refine Goes.step (B := T8.setTop (mkF m 54 #[.val (.ref a1), .val (.ref a2), .val (.ref a2)] [])) (fun _ k => XS.ifYes X8.here hx rfl (pc0 := 47) (pc' := 54) rfl (hb hby d4_47) rfl ((if0 _ _).trans (teq (by decide)).1) (by decide) (by decide) k) ?_
  refine Goes.step (B := T8.setTop (mkF m 55 #[.val (.ref a1), .val (.ref a2), .val (.ref a2)] [(.int (0 : Int32))])) (fun _ k => XS.iconst X8.here hx rfl (hb hby d4_54) k) ?_
  exact Goes.retN X8 hx eh8 (t := .boolean) Bd.returns (by simp) hlk (hb hby d4_55) (by decide) (by decide) (⟨rfl, N8, rfl⟩)
theorem ef_rmLd02 (m : MethodId) (x0 : Addr) (x1 : Addr) : entryFrame m #[(.ref x0), (.ref x1)] 3 = mkF m 0 #[.val (.ref x0), .val (.ref x1), .unset] [] := by first | (simp [entryFrame, mkF, argsToLocals, Value.category]; done) | rfl
def QLd02 (Z : State) (b1 : Addr) (b2 : Addr) (k1 : ClassId) (k2 : ClassId) (h0 : Heap) (n0 : Nat) (v : Option Value) (h : Heap) (L : List Loc) : Prop := v = some (.int (0 : Int32)) ∧ Fr n0 L ∧ h = h0
set_option maxRecDepth 65536 in
set_option maxHeartbeats 40000000 in
theorem rmLd02 (l : Launch) (Z : State) (a0 : Array Value) (hw : ∀ d ∈ tables_1, d.before a0 Z = true) (ws : List Jvm.Cond) (b1 : Addr) (b2 : Addr) (k1 : ClassId) (k2 : ClassId) (h0 : Heap) (n0 : Nat) (O0 : Old Z n0 h0) (V1 : Arv Z h0 b1 k1 .byte (8 : Int32) [.int (70 : Int32), .int (114 : Int32), .int (111 : Int32), .int (110 : Int32), .int (116 : Int32), .int (32 : Int32), .int (66 : Int32), .int (87 : Int32)] (.int (0 : Int32))) (V2 : Arv Z h0 b2 k2 .byte (10 : Int32) [.int (70 : Int32), .int (114 : Int32), .int (111 : Int32), .int (110 : Int32), .int (116 : Int32), .int (32 : Int32), .int (71 : Int32), .int (114 : Int32), .int (97 : Int32), .int (121 : Int32)] (.int (0 : Int32))) :
    MetFree l (⟨"java/lang/StringLatin1", "equals", "([B[B)Z"⟩ : MethodName) (head1 (Jvm.Cond.code (⟨"java/lang/StringLatin1", "equals", "([B[B)Z"⟩ : MethodName) jdk_43_method_13_code 3 (some .boolean) :: ws) ({ frames := 0, cells := 0, slots := 0, locals := 0 } : Room)) (fun a U => a = #[(.ref b1), (.ref b2)] ∧ Z.Warmed39 U.vm ∧ U.heap = h0) (fun _ _ _ _ _ => True) (fun _ U o U' => ∃ v L, o = .returned v ∧ QLd02 Z b1 b2 k1 k2 h0 n0 v U'.heap L ∧ FrameEnd U o U' L ({ frames := 0, cells := 0, slots := 0, locals := 0 } : Room).cells ({ frames := 0, cells := 0, slots := 0, locals := 0 } : Room).slots) := by
  refine MetFree.of_bodySF (plainFor_of_name pn_StringLatin1) hisR ?_
  intro p e s m args below meth c s₁ Bd hml0 hP hK
  obtain ⟨rfl, hZ, hh⟩ := hP
  have hx := Bd.exec
  have hby := Bd.bytes
  have hlk : meth.locks = false := BodyLoose.notSynchronized Bd
  have hml : c.maxLocals = 3 := hml0
  have hown : s.vm.findClass "java/lang/StringLatin1" = some m.cls := findClass_of_methodNamed Bd.named
  have hnm := (name_of_methodNamed Bd.named Bd.method).1
  have X0 : Stand p l e ({ frames := 0, cells := 0, slots := 0, locals := 0 } : Room) s m #[(.ref b1), (.ref b2)] below meth c s₁ [] 0 0 := Stand.of_body Bd
  have e0 : s₁.heap = h0 := by rw [← hh, Bd.state]; rfl
  have N0 := Fr.nil n0
  show Goes p e below s (QLd02 Z b1 b2 k1 k2 h0 n0) ({ frames := 0, cells := 0, slots := 0, locals := 0 } : Room).cells ({ frames := 0, cells := 0, slots := 0, locals := 0 } : Room).slots (s₁.setTop (entryFrame m #[(.ref b1), (.ref b2)] 3))
  refine Goes.enter (g' := (mkF m 0 #[.val (.ref b1), .val (.ref b2), .unset] [])) (ef_rmLd02 m b1 b2) ?_
  refine Goes.step (B := s₁.setTop (mkF m 1 #[.val (.ref b1), .val (.ref b2), .unset] [(.ref b1)])) (fun _ k => XS.aloadN X0.here hx rfl (hb hby d5_0) rfl rfl k) ?_
  obtain ⟨c1, Ar1, -, Sz1, Nn1, -, -⟩ := id V1
  have len1 := X0.arraylength hx (by rw [e0]; exact Ar1.1) (State.isArrayOf_alike hZ.alike Ar1.2.1) (g := (mkF m 1 #[.val (.ref b1), .val (.ref b2), .unset] [(.ref b1)])) rfl rfl (hb hby d5_1)
  rw [len_of Sz1 Nn1] at len1
  refine Goes.step (B := s₁.setTop (mkF m 2 #[.val (.ref b1), .val (.ref b2), .unset] [(.int (8 : Int32))])) len1 ?_
  refine Goes.step (B := s₁.setTop (mkF m 3 #[.val (.ref b1), .val (.ref b2), .unset] [(.ref b2), (.int (8 : Int32))])) (fun _ k => XS.aloadN X0.here hx rfl (hb hby d5_2) rfl rfl k) ?_
  obtain ⟨c2, Ar2, -, Sz2, Nn2, -, -⟩ := id V2
  have len2 := X0.arraylength hx (by rw [e0]; exact Ar2.1) (State.isArrayOf_alike hZ.alike Ar2.2.1) (g := (mkF m 3 #[.val (.ref b1), .val (.ref b2), .unset] [(.ref b2), (.int (8 : Int32))])) rfl rfl (hb hby d5_3)
  rw [len_of Sz2 Nn2] at len2
  refine Goes.step (B := s₁.setTop (mkF m 4 #[.val (.ref b1), .val (.ref b2), .unset] [(.int (10 : Int32)), (.int (8 : Int32))])) len2 ?_
  refine Goes.step (B := s₁.setTop (mkF m 34 #[.val (.ref b1), .val (.ref b2), .unset] [])) (fun _ k => XS.icmpYes X0.here hx rfl (pc0 := 4) (pc' := 34) rfl (hb hby d5_4) rfl (feq (by decide)).2 (by decide) (by decide) k) ?_
  refine Goes.step (B := s₁.setTop (mkF m 35 #[.val (.ref b1), .val (.ref b2), .unset] [(.int (0 : Int32))])) (fun _ k => XS.iconst X0.here hx rfl (hb hby d5_34) k) ?_
  exact Goes.retN X0 hx e0 (t := .boolean) Bd.returns (by simp) hlk (hb hby d5_35) (by decide) (by decide) (⟨rfl, N0, rfl⟩)
theorem ef_rmEd02 (m : MethodId) (x0 : Addr) (x1 : Addr) : entryFrame m #[(.ref x0), (.ref x1)] 3 = mkF m 0 #[.val (.ref x0), .val (.ref x1), .unset] [] := by first | (simp [entryFrame, mkF, argsToLocals, Value.category]; done) | rfl
def QEd02 (Z : State) (a1 : Addr) (a2 : Addr) (b1 : Addr) (b2 : Addr) (k1 : ClassId) (k2 : ClassId) (cs : Int32) (h0 : Heap) (n0 : Nat) (v : Option Value) (h : Heap) (L : List Loc) : Prop := v = some (.int (0 : Int32)) ∧ Fr n0 L ∧ h = h0
set_option maxRecDepth 65536 in
set_option maxHeartbeats 40000000 in
theorem rmEd02 (l : Launch) (Z : State) (a0 : Array Value) (hw : ∀ d ∈ tables_1, d.before a0 Z = true) (ws : List Jvm.Cond) (a1 : Addr) (a2 : Addr) (b1 : Addr) (b2 : Addr) (k1 : ClassId) (k2 : ClassId) (cs : Int32) (h0 : Heap) (n0 : Nat) (O0 : Old Z n0 h0) (Sc : Sta Z h0 "java/lang/String" "COMPACT_STRINGS" "Z" (.int cs)) (hcs : ¬ cs = (0 : Int32)) (E2 : Exa Z h0 a2 "java/lang/String") (Fc1 : Fld Z h0 a1 "java/lang/String" "coder" "B" (.int (0 : Int32))) (Fv1 : Fld Z h0 a1 "java/lang/String" "value" "[B" (.ref b1)) (V1 : Arv Z h0 b1 k1 .byte (8 : Int32) [.int (70 : Int32), .int (114 : Int32), .int (111 : Int32), .int (110 : Int32), .int (116 : Int32), .int (32 : Int32), .int (66 : Int32), .int (87 : Int32)] (.int (0 : Int32))) (Fc2 : Fld Z h0 a2 "java/lang/String" "coder" "B" (.int (0 : Int32))) (Fv2 : Fld Z h0 a2 "java/lang/String" "value" "[B" (.ref b2)) (V2 : Arv Z h0 b2 k2 .byte (10 : Int32) [.int (70 : Int32), .int (114 : Int32), .int (111 : Int32), .int (110 : Int32), .int (116 : Int32), .int (32 : Int32), .int (71 : Int32), .int (114 : Int32), .int (97 : Int32), .int (121 : Int32)] (.int (0 : Int32))) :
    MetFree l (⟨"java/lang/String", "equals", "(Ljava/lang/Object;)Z"⟩ : MethodName) (head1 (Jvm.Cond.code (⟨"java/lang/String", "equals", "(Ljava/lang/Object;)Z"⟩ : MethodName) jdk_42_method_66_code 3 (some .boolean) :: ws) ({ frames := 1, cells := 0, slots := 0, locals := 14 } : Room)) (fun a U => a = #[(.ref a1), (.ref a2)] ∧ Z.Warmed39 U.vm ∧ U.heap = h0) (fun _ _ _ _ _ => True) (fun _ U o U' => ∃ v L, o = .returned v ∧ QEd02 Z a1 a2 b1 b2 k1 k2 cs h0 n0 v U'.heap L ∧ FrameEnd U o U' L ({ frames := 1, cells := 0, slots := 0, locals := 14 } : Room).cells ({ frames := 1, cells := 0, slots := 0, locals := 14 } : Room).slots) := by
  refine MetFree.of_bodySF (plainFor_of_name pn_String) hisR ?_
  intro p e s m args below meth c s₁ Bd hml0 hP hK
  obtain ⟨rfl, hZ, hh⟩ := hP
  have hx := Bd.exec
  have hby := Bd.bytes
  have hlk : meth.locks = false := BodyLoose.notSynchronized Bd
  have hml : c.maxLocals = 3 := hml0
  have hown : s.vm.findClass "java/lang/String" = some m.cls := findClass_of_methodNamed Bd.named
  have hnm := (name_of_methodNamed Bd.named Bd.method).1
  have X0 : Stand p l e ({ frames := 1, cells := 0, slots := 0, locals := 14 } : Room) s m #[(.ref a1), (.ref a2)] below meth c s₁ [] 0 0 := Stand.of_body Bd
  have e0 : s₁.heap = h0 := by rw [← hh, Bd.state]; rfl
  have N0 := Fr.nil n0
  show Goes p e below s (QEd02 Z a1 a2 b1 b2 k1 k2 cs h0 n0) ({ frames := 1, cells := 0, slots := 0, locals := 14 } : Room).cells ({ frames := 1, cells := 0, slots := 0, locals := 14 } : Room).slots (s₁.setTop (entryFrame m #[(.ref a1), (.ref a2)] 3))
  refine Goes.enter (g' := (mkF m 0 #[.val (.ref a1), .val (.ref a2), .unset] [])) (ef_rmEd02 m a1 a2) ?_
  have nab : a1 ≠ a2 := Fld.ne Fv1 Fv2 (own_refne (own_neV V1 V2 (by decide)))
  refine Goes.step (B := s₁.setTop (mkF m 1 #[.val (.ref a1), .val (.ref a2), .unset] [(.ref a1)])) (fun _ k => XS.aloadN X0.here hx rfl (hb hby d4_0) rfl rfl k) ?_
  refine Goes.step (B := s₁.setTop (mkF m 2 #[.val (.ref a1), .val (.ref a2), .unset] [(.ref a2), (.ref a1)])) (fun _ k => XS.aloadN X0.here hx rfl (hb hby d4_1) rfl rfl k) ?_
  refine Goes.step (B := s₁.setTop (mkF m 7 #[.val (.ref a1), .val (.ref a2), .unset] [])) (fun _ k => Jvm.RoadKit.acmp (g := (mkF m 2 #[.val (.ref a1), .val (.ref a2), .unset] [(.ref a2), (.ref a1)])) X0 hx rfl rfl rfl (pc0 := 2) (pc' := 7) (same := false) rfl (hb hby d4_2) rfl (decide_eq_false fun q => nab (Value.ref.inj q)) (by decide) (by decide) k) ?_
  refine Goes.step (B := s₁.setTop (mkF m 8 #[.val (.ref a1), .val (.ref a2), .unset] [(.ref a2)])) (fun _ k => XS.aloadN X0.here hx rfl (hb hby d4_7) rfl rfl k) ?_
  obtain ⟨T1, X1, e1, st1⟩ := instY X0 hx hZ hown (hw _ (List.mem_of_getElem? (i := 44) rfl)) e0 (Ins.self E2) (g := (mkF m 8 #[.val (.ref a1), .val (.ref a2), .unset] [(.ref a2)])) rfl rfl (hb hby d4_8)
  refine Goes.step (B := T1.setTop (mkF m 11 #[.val (.ref a1), .val (.ref a2), .unset] [(.int (1 : Int32))])) st1 ?_
  refine Goes.step (B := T1.setTop (mkF m 14 #[.val (.ref a1), .val (.ref a2), .unset] [])) (fun _ k => XS.ifNo X1.here hx rfl (hb hby d4_11) rfl ((if0 _ _).trans (feq (by decide)).1) k) ?_
  refine Goes.step (B := T1.setTop (mkF m 15 #[.val (.ref a1), .val (.ref a2), .unset] [(.ref a2)])) (fun _ k => XS.aloadN X1.here hx rfl (hb hby d4_14) rfl rfl k) ?_
  obtain ⟨T2, X2, e2, st2⟩ := castY X1 hx hZ hown (hw _ (List.mem_of_getElem? (i := 44) rfl)) e1 (Ins.self E2) (g := (mkF m 15 #[.val (.ref a1), .val (.ref a2), .unset] [(.ref a2)])) rfl rfl (hb hby d4_15)
  refine Goes.step (B := T2.setTop (mkF m 18 #[.val (.ref a1), .val (.ref a2), .unset] [(.ref a2)])) st2 ?_
  refine Goes.step (B := T2.setTop (mkF m 19 #[.val (.ref a1), .val (.ref a2), .val (.ref a2)] [])) (fun _ k => XS.astoreN X2.here hx rfl (hb hby d4_18) rfl rfl (l' := #[.val (.ref a1), .val (.ref a2), .val (.ref a2)]) rfl k) ?_
  obtain ⟨T3, X3, e3, st3⟩ := getS2 X2 hx hZ hown (host := "") (Or.inl (hw _ (List.mem_of_getElem? (i := 45) rfl))) Via.refl e2 Sc (g := (mkF m 19 #[.val (.ref a1), .val (.ref a2), .val (.ref a2)] [])) rfl (hb hby d4_19)
  refine Goes.step (B := T3.setTop (mkF m 22 #[.val (.ref a1), .val (.ref a2), .val (.ref a2)] [(.int cs)])) st3 ?_
  refine Goes.step (B := T3.setTop (mkF m 25 #[.val (.ref a1), .val (.ref a2), .val (.ref a2)] [])) (fun _ k => XS.ifNo X3.here hx rfl (hb hby d4_22) rfl ((if0 _ _).trans (feq hcs).1) k) ?_
  refine Goes.step (B := T3.setTop (mkF m 26 #[.val (.ref a1), .val (.ref a2), .val (.ref a2)] [(.ref a1)])) (fun _ k => XS.aloadN X3.here hx rfl (hb hby d4_25) rfl rfl k) ?_
  obtain ⟨T4, X4, e4, st4⟩ := getF X3 hx hZ hown (host := "") (Or.inl (hw _ (List.mem_of_getElem? (i := 46) rfl))) Via.refl e3 Fc1 (g := (mkF m 26 #[.val (.ref a1), .val (.ref a2), .val (.ref a2)] [(.ref a1)])) rfl rfl (hb hby d4_26)
  refine Goes.step (B := T4.setTop (mkF m 29 #[.val (.ref a1), .val (.ref a2), .val (.ref a2)] [(.int (0 : Int32))])) st4 ?_
  refine Goes.step (B := T4.setTop (mkF m 30 #[.val (.ref a1), .val (.ref a2), .val (.ref a2)] [(.ref a2), (.int (0 : Int32))])) (fun _ k => XS.aloadN X4.here hx rfl (hb hby d4_29) rfl rfl k) ?_
  obtain ⟨T5, X5, e5, st5⟩ := getF X4 hx hZ hown (host := "") (Or.inl (hw _ (List.mem_of_getElem? (i := 46) rfl))) Via.refl e4 Fc2 (g := (mkF m 30 #[.val (.ref a1), .val (.ref a2), .val (.ref a2)] [(.ref a2), (.int (0 : Int32))])) rfl rfl (hb hby d4_30)
  refine Goes.step (B := T5.setTop (mkF m 33 #[.val (.ref a1), .val (.ref a2), .val (.ref a2)] [(.int (0 : Int32)), (.int (0 : Int32))])) st5 ?_
  refine Goes.step (B := T5.setTop (mkF m 36 #[.val (.ref a1), .val (.ref a2), .val (.ref a2)] [])) (fun _ k => XS.icmpNo X5.here hx rfl (hb hby d4_33) rfl (teq (by decide)).2 k) ?_
  refine Goes.step (B := T5.setTop (mkF m 37 #[.val (.ref a1), .val (.ref a2), .val (.ref a2)] [(.ref a1)])) (fun _ k => XS.aloadN X5.here hx rfl (hb hby d4_36) rfl rfl k) ?_
  obtain ⟨T6, X6, e6, st6⟩ := getF X5 hx hZ hown (host := "") (Or.inl (hw _ (List.mem_of_getElem? (i := 47) rfl))) Via.refl e5 Fv1 (g := (mkF m 37 #[.val (.ref a1), .val (.ref a2), .val (.ref a2)] [(.ref a1)])) rfl rfl (hb hby d4_37)
  refine Goes.step (B := T6.setTop (mkF m 40 #[.val (.ref a1), .val (.ref a2), .val (.ref a2)] [(.ref b1)])) st6 ?_
  refine Goes.step (B := T6.setTop (mkF m 41 #[.val (.ref a1), .val (.ref a2), .val (.ref a2)] [(.ref a2), (.ref b1)])) (fun _ k => XS.aloadN X6.here hx rfl (hb hby d4_40) rfl rfl k) ?_
  obtain ⟨T7, X7, e7, st7⟩ := getF X6 hx hZ hown (host := "") (Or.inl (hw _ (List.mem_of_getElem? (i := 47) rfl))) Via.refl e6 Fv2 (g := (mkF m 41 #[.val (.ref a1), .val (.ref a2), .val (.ref a2)] [(.ref a2), (.ref b1)])) rfl rfl (hb hby d4_41)
  refine Goes.step (B := T7.setTop (mkF m 44 #[.val (.ref a1), .val (.ref a2), .val (.ref a2)] [(.ref b2), (.ref b1)])) st7 ?_
  obtain ⟨_, _, ⟨T8, L8, k8, n8⟩, -, X8, ⟨Lc8, hQ8, l8, y8, z8⟩, st8⟩ := Jvm.LawKit.callS X7 hx (y := (⟨"java/lang/StringLatin1", "equals", "([B[B)Z"⟩ : MethodName)) hown (mvT hZ (hw _ (List.mem_of_getElem? (i := 48) rfl))) (mvT hZ (hw _ (List.mem_of_getElem? (i := 49) rfl))) (mvT hZ (hw _ (List.mem_of_getElem? (i := 50) rfl))) (mvT hZ (hw _ (List.mem_of_getElem? (i := 51) rfl))) (by decide) (backOf (W := 0) (rmLd02 l Z a0 hw [] b1 b2 k1 k2 h0 n0 O0 V1 V2) hZ (hw _ (List.mem_of_getElem? (i := 51) rfl)) (hw _ (List.mem_of_getElem? (i := 50) rfl)) (by decide) (by decide)) (g := (mkF m 44 #[.val (.ref a1), .val (.ref a2), .val (.ref a2)] [(.ref b2), (.ref b1)])) rfl (by rw [hml]; rfl) (argsL := [(.ref b1), (.ref b2)]) (rest := []) (lenOf pd_1 rfl) rfl (by show 2 * 0 + _ ≤ _; exact Nat.le_of_eq rfl) (hb hby d4_44) (fun _ _ => ⟨rfl, e7, (by decide : 0 + 0 ≤ _), (by decide : 0 + 0 ≤ _)⟩)
  dsimp only [Pt.U, Pt.locs, Pt.cells, Pt.slots] at X8 l8 y8 z8 st8 hQ8
  subst l8 y8 z8
  obtain ⟨rfl, Nq8, eh8⟩ := hQ8
  have N8 := Fr.app N0 Nq8
  refine Goes.step (B := T8.setTop (mkF m 47 #[.val (.ref a1), .val (.ref a2), .val (.ref a2)] [(.int (0 : Int32))])) st8 ?_
  refine Goes.step (B := T8.setTop (mkF m 54 #[.val (.ref a1), .val (.ref a2), .val (.ref a2)] [])) (fun _ k => XS.ifYes X8.here hx rfl (pc0 := 47) (pc' := 54) rfl (hb hby d4_47) rfl ((if0 _ _).trans (teq (by decide)).1) (by decide) (by decide) k) ?_
  refine Goes.step (B := T8.setTop (mkF m 55 #[.val (.ref a1), .val (.ref a2), .val (.ref a2)] [(.int (0 : Int32))])) (fun _ k => XS.iconst X8.here hx rfl (hb hby d4_54) k) ?_
  exact Goes.retN X8 hx eh8 (t := .boolean) Bd.returns (by simp) hlk (hb hby d4_55) (by decide) (by decide) (⟨rfl, N8, rfl⟩)
theorem ef_rmLd12 (m : MethodId) (x0 : Addr) (x1 : Addr) : entryFrame m #[(.ref x0), (.ref x1)] 3 = mkF m 0 #[.val (.ref x0), .val (.ref x1), .unset] [] := by first | (simp [entryFrame, mkF, argsToLocals, Value.category]; done) | rfl
def QLd12 (Z : State) (b1 : Addr) (b2 : Addr) (k1 : ClassId) (k2 : ClassId) (h0 : Heap) (n0 : Nat) (v : Option Value) (h : Heap) (L : List Loc) : Prop := v = some (.int (0 : Int32)) ∧ Fr n0 L ∧ h = h0
set_option maxRecDepth 65536 in
set_option maxHeartbeats 40000000 in
theorem rmLd12 (l : Launch) (Z : State) (a0 : Array Value) (hw : ∀ d ∈ tables_1, d.before a0 Z = true) (ws : List Jvm.Cond) (b1 : Addr) (b2 : Addr) (k1 : ClassId) (k2 : ClassId) (h0 : Heap) (n0 : Nat) (O0 : Old Z n0 h0) (V1 : Arv Z h0 b1 k1 .byte (7 : Int32) [.int (66 : Int32), .int (97 : Int32), .int (99 : Int32), .int (107 : Int32), .int (32 : Int32), .int (66 : Int32), .int (87 : Int32)] (.int (0 : Int32))) (V2 : Arv Z h0 b2 k2 .byte (10 : Int32) [.int (70 : Int32), .int (114 : Int32), .int (111 : Int32), .int (110 : Int32), .int (116 : Int32), .int (32 : Int32), .int (71 : Int32), .int (114 : Int32), .int (97 : Int32), .int (121 : Int32)] (.int (0 : Int32))) :
    MetFree l (⟨"java/lang/StringLatin1", "equals", "([B[B)Z"⟩ : MethodName) (head1 (Jvm.Cond.code (⟨"java/lang/StringLatin1", "equals", "([B[B)Z"⟩ : MethodName) jdk_43_method_13_code 3 (some .boolean) :: ws) ({ frames := 0, cells := 0, slots := 0, locals := 0 } : Room)) (fun a U => a = #[(.ref b1), (.ref b2)] ∧ Z.Warmed39 U.vm ∧ U.heap = h0) (fun _ _ _ _ _ => True) (fun _ U o U' => ∃ v L, o = .returned v ∧ QLd12 Z b1 b2 k1 k2 h0 n0 v U'.heap L ∧ FrameEnd U o U' L ({ frames := 0, cells := 0, slots := 0, locals := 0 } : Room).cells ({ frames := 0, cells := 0, slots := 0, locals := 0 } : Room).slots) := by
  refine MetFree.of_bodySF (plainFor_of_name pn_StringLatin1) hisR ?_
  intro p e s m args below meth c s₁ Bd hml0 hP hK
  obtain ⟨rfl, hZ, hh⟩ := hP
  have hx := Bd.exec
  have hby := Bd.bytes
  have hlk : meth.locks = false := BodyLoose.notSynchronized Bd
  have hml : c.maxLocals = 3 := hml0
  have hown : s.vm.findClass "java/lang/StringLatin1" = some m.cls := findClass_of_methodNamed Bd.named
  have hnm := (name_of_methodNamed Bd.named Bd.method).1
  have X0 : Stand p l e ({ frames := 0, cells := 0, slots := 0, locals := 0 } : Room) s m #[(.ref b1), (.ref b2)] below meth c s₁ [] 0 0 := Stand.of_body Bd
  have e0 : s₁.heap = h0 := by rw [← hh, Bd.state]; rfl
  have N0 := Fr.nil n0
  show Goes p e below s (QLd12 Z b1 b2 k1 k2 h0 n0) ({ frames := 0, cells := 0, slots := 0, locals := 0 } : Room).cells ({ frames := 0, cells := 0, slots := 0, locals := 0 } : Room).slots (s₁.setTop (entryFrame m #[(.ref b1), (.ref b2)] 3))
  refine Goes.enter (g' := (mkF m 0 #[.val (.ref b1), .val (.ref b2), .unset] [])) (ef_rmLd12 m b1 b2) ?_
  refine Goes.step (B := s₁.setTop (mkF m 1 #[.val (.ref b1), .val (.ref b2), .unset] [(.ref b1)])) (fun _ k => XS.aloadN X0.here hx rfl (hb hby d5_0) rfl rfl k) ?_
  obtain ⟨c1, Ar1, -, Sz1, Nn1, -, -⟩ := id V1
  have len1 := X0.arraylength hx (by rw [e0]; exact Ar1.1) (State.isArrayOf_alike hZ.alike Ar1.2.1) (g := (mkF m 1 #[.val (.ref b1), .val (.ref b2), .unset] [(.ref b1)])) rfl rfl (hb hby d5_1)
  rw [len_of Sz1 Nn1] at len1
  refine Goes.step (B := s₁.setTop (mkF m 2 #[.val (.ref b1), .val (.ref b2), .unset] [(.int (7 : Int32))])) len1 ?_
  refine Goes.step (B := s₁.setTop (mkF m 3 #[.val (.ref b1), .val (.ref b2), .unset] [(.ref b2), (.int (7 : Int32))])) (fun _ k => XS.aloadN X0.here hx rfl (hb hby d5_2) rfl rfl k) ?_
  obtain ⟨c2, Ar2, -, Sz2, Nn2, -, -⟩ := id V2
  have len2 := X0.arraylength hx (by rw [e0]; exact Ar2.1) (State.isArrayOf_alike hZ.alike Ar2.2.1) (g := (mkF m 3 #[.val (.ref b1), .val (.ref b2), .unset] [(.ref b2), (.int (7 : Int32))])) rfl rfl (hb hby d5_3)
  rw [len_of Sz2 Nn2] at len2
  refine Goes.step (B := s₁.setTop (mkF m 4 #[.val (.ref b1), .val (.ref b2), .unset] [(.int (10 : Int32)), (.int (7 : Int32))])) len2 ?_
  refine Goes.step (B := s₁.setTop (mkF m 34 #[.val (.ref b1), .val (.ref b2), .unset] [])) (fun _ k => XS.icmpYes X0.here hx rfl (pc0 := 4) (pc' := 34) rfl (hb hby d5_4) rfl (feq (by decide)).2 (by decide) (by decide) k) ?_
  refine Goes.step (B := s₁.setTop (mkF m 35 #[.val (.ref b1), .val (.ref b2), .unset] [(.int (0 : Int32))])) (fun _ k => XS.iconst X0.here hx rfl (hb hby d5_34) k) ?_
  exact Goes.retN X0 hx e0 (t := .boolean) Bd.returns (by simp) hlk (hb hby d5_35) (by decide) (by decide) (⟨rfl, N0, rfl⟩)
theorem ef_rmEd12 (m : MethodId) (x0 : Addr) (x1 : Addr) : entryFrame m #[(.ref x0), (.ref x1)] 3 = mkF m 0 #[.val (.ref x0), .val (.ref x1), .unset] [] := by first | (simp [entryFrame, mkF, argsToLocals, Value.category]; done) | rfl
def QEd12 (Z : State) (a1 : Addr) (a2 : Addr) (b1 : Addr) (b2 : Addr) (k1 : ClassId) (k2 : ClassId) (cs : Int32) (h0 : Heap) (n0 : Nat) (v : Option Value) (h : Heap) (L : List Loc) : Prop := v = some (.int (0 : Int32)) ∧ Fr n0 L ∧ h = h0
set_option maxRecDepth 65536 in
set_option maxHeartbeats 40000000 in
theorem rmEd12 (l : Launch) (Z : State) (a0 : Array Value) (hw : ∀ d ∈ tables_1, d.before a0 Z = true) (ws : List Jvm.Cond) (a1 : Addr) (a2 : Addr) (b1 : Addr) (b2 : Addr) (k1 : ClassId) (k2 : ClassId) (cs : Int32) (h0 : Heap) (n0 : Nat) (O0 : Old Z n0 h0) (Sc : Sta Z h0 "java/lang/String" "COMPACT_STRINGS" "Z" (.int cs)) (hcs : ¬ cs = (0 : Int32)) (E2 : Exa Z h0 a2 "java/lang/String") (Fc1 : Fld Z h0 a1 "java/lang/String" "coder" "B" (.int (0 : Int32))) (Fv1 : Fld Z h0 a1 "java/lang/String" "value" "[B" (.ref b1)) (V1 : Arv Z h0 b1 k1 .byte (7 : Int32) [.int (66 : Int32), .int (97 : Int32), .int (99 : Int32), .int (107 : Int32), .int (32 : Int32), .int (66 : Int32), .int (87 : Int32)] (.int (0 : Int32))) (Fc2 : Fld Z h0 a2 "java/lang/String" "coder" "B" (.int (0 : Int32))) (Fv2 : Fld Z h0 a2 "java/lang/String" "value" "[B" (.ref b2)) (V2 : Arv Z h0 b2 k2 .byte (10 : Int32) [.int (70 : Int32), .int (114 : Int32), .int (111 : Int32), .int (110 : Int32), .int (116 : Int32), .int (32 : Int32), .int (71 : Int32), .int (114 : Int32), .int (97 : Int32), .int (121 : Int32)] (.int (0 : Int32))) :
    MetFree l (⟨"java/lang/String", "equals", "(Ljava/lang/Object;)Z"⟩ : MethodName) (head1 (Jvm.Cond.code (⟨"java/lang/String", "equals", "(Ljava/lang/Object;)Z"⟩ : MethodName) jdk_42_method_66_code 3 (some .boolean) :: ws) ({ frames := 1, cells := 0, slots := 0, locals := 14 } : Room)) (fun a U => a = #[(.ref a1), (.ref a2)] ∧ Z.Warmed39 U.vm ∧ U.heap = h0) (fun _ _ _ _ _ => True) (fun _ U o U' => ∃ v L, o = .returned v ∧ QEd12 Z a1 a2 b1 b2 k1 k2 cs h0 n0 v U'.heap L ∧ FrameEnd U o U' L ({ frames := 1, cells := 0, slots := 0, locals := 14 } : Room).cells ({ frames := 1, cells := 0, slots := 0, locals := 14 } : Room).slots) := by
  refine MetFree.of_bodySF (plainFor_of_name pn_String) hisR ?_
  intro p e s m args below meth c s₁ Bd hml0 hP hK
  obtain ⟨rfl, hZ, hh⟩ := hP
  have hx := Bd.exec
  have hby := Bd.bytes
  have hlk : meth.locks = false := BodyLoose.notSynchronized Bd
  have hml : c.maxLocals = 3 := hml0
  have hown : s.vm.findClass "java/lang/String" = some m.cls := findClass_of_methodNamed Bd.named
  have hnm := (name_of_methodNamed Bd.named Bd.method).1
  have X0 : Stand p l e ({ frames := 1, cells := 0, slots := 0, locals := 14 } : Room) s m #[(.ref a1), (.ref a2)] below meth c s₁ [] 0 0 := Stand.of_body Bd
  have e0 : s₁.heap = h0 := by rw [← hh, Bd.state]; rfl
  have N0 := Fr.nil n0
  show Goes p e below s (QEd12 Z a1 a2 b1 b2 k1 k2 cs h0 n0) ({ frames := 1, cells := 0, slots := 0, locals := 14 } : Room).cells ({ frames := 1, cells := 0, slots := 0, locals := 14 } : Room).slots (s₁.setTop (entryFrame m #[(.ref a1), (.ref a2)] 3))
  refine Goes.enter (g' := (mkF m 0 #[.val (.ref a1), .val (.ref a2), .unset] [])) (ef_rmEd12 m a1 a2) ?_
  have nab : a1 ≠ a2 := Fld.ne Fv1 Fv2 (own_refne (own_neV V1 V2 (by decide)))
  refine Goes.step (B := s₁.setTop (mkF m 1 #[.val (.ref a1), .val (.ref a2), .unset] [(.ref a1)])) (fun _ k => XS.aloadN X0.here hx rfl (hb hby d4_0) rfl rfl k) ?_
  refine Goes.step (B := s₁.setTop (mkF m 2 #[.val (.ref a1), .val (.ref a2), .unset] [(.ref a2), (.ref a1)])) (fun _ k => XS.aloadN X0.here hx rfl (hb hby d4_1) rfl rfl k) ?_
  refine Goes.step (B := s₁.setTop (mkF m 7 #[.val (.ref a1), .val (.ref a2), .unset] [])) (fun _ k => Jvm.RoadKit.acmp (g := (mkF m 2 #[.val (.ref a1), .val (.ref a2), .unset] [(.ref a2), (.ref a1)])) X0 hx rfl rfl rfl (pc0 := 2) (pc' := 7) (same := false) rfl (hb hby d4_2) rfl (decide_eq_false fun q => nab (Value.ref.inj q)) (by decide) (by decide) k) ?_
  refine Goes.step (B := s₁.setTop (mkF m 8 #[.val (.ref a1), .val (.ref a2), .unset] [(.ref a2)])) (fun _ k => XS.aloadN X0.here hx rfl (hb hby d4_7) rfl rfl k) ?_
  obtain ⟨T1, X1, e1, st1⟩ := instY X0 hx hZ hown (hw _ (List.mem_of_getElem? (i := 44) rfl)) e0 (Ins.self E2) (g := (mkF m 8 #[.val (.ref a1), .val (.ref a2), .unset] [(.ref a2)])) rfl rfl (hb hby d4_8)
  refine Goes.step (B := T1.setTop (mkF m 11 #[.val (.ref a1), .val (.ref a2), .unset] [(.int (1 : Int32))])) st1 ?_
  refine Goes.step (B := T1.setTop (mkF m 14 #[.val (.ref a1), .val (.ref a2), .unset] [])) (fun _ k => XS.ifNo X1.here hx rfl (hb hby d4_11) rfl ((if0 _ _).trans (feq (by decide)).1) k) ?_
  refine Goes.step (B := T1.setTop (mkF m 15 #[.val (.ref a1), .val (.ref a2), .unset] [(.ref a2)])) (fun _ k => XS.aloadN X1.here hx rfl (hb hby d4_14) rfl rfl k) ?_
  obtain ⟨T2, X2, e2, st2⟩ := castY X1 hx hZ hown (hw _ (List.mem_of_getElem? (i := 44) rfl)) e1 (Ins.self E2) (g := (mkF m 15 #[.val (.ref a1), .val (.ref a2), .unset] [(.ref a2)])) rfl rfl (hb hby d4_15)
  refine Goes.step (B := T2.setTop (mkF m 18 #[.val (.ref a1), .val (.ref a2), .unset] [(.ref a2)])) st2 ?_
  refine Goes.step (B := T2.setTop (mkF m 19 #[.val (.ref a1), .val (.ref a2), .val (.ref a2)] [])) (fun _ k => XS.astoreN X2.here hx rfl (hb hby d4_18) rfl rfl (l' := #[.val (.ref a1), .val (.ref a2), .val (.ref a2)]) rfl k) ?_
  obtain ⟨T3, X3, e3, st3⟩ := getS2 X2 hx hZ hown (host := "") (Or.inl (hw _ (List.mem_of_getElem? (i := 45) rfl))) Via.refl e2 Sc (g := (mkF m 19 #[.val (.ref a1), .val (.ref a2), .val (.ref a2)] [])) rfl (hb hby d4_19)
  refine Goes.step (B := T3.setTop (mkF m 22 #[.val (.ref a1), .val (.ref a2), .val (.ref a2)] [(.int cs)])) st3 ?_
  refine Goes.step (B := T3.setTop (mkF m 25 #[.val (.ref a1), .val (.ref a2), .val (.ref a2)] [])) (fun _ k => XS.ifNo X3.here hx rfl (hb hby d4_22) rfl ((if0 _ _).trans (feq hcs).1) k) ?_
  refine Goes.step (B := T3.setTop (mkF m 26 #[.val (.ref a1), .val (.ref a2), .val (.ref a2)] [(.ref a1)])) (fun _ k => XS.aloadN X3.here hx rfl (hb hby d4_25) rfl rfl k) ?_
  obtain ⟨T4, X4, e4, st4⟩ := getF X3 hx hZ hown (host := "") (Or.inl (hw _ (List.mem_of_getElem? (i := 46) rfl))) Via.refl e3 Fc1 (g := (mkF m 26 #[.val (.ref a1), .val (.ref a2), .val (.ref a2)] [(.ref a1)])) rfl rfl (hb hby d4_26)
  refine Goes.step (B := T4.setTop (mkF m 29 #[.val (.ref a1), .val (.ref a2), .val (.ref a2)] [(.int (0 : Int32))])) st4 ?_
  refine Goes.step (B := T4.setTop (mkF m 30 #[.val (.ref a1), .val (.ref a2), .val (.ref a2)] [(.ref a2), (.int (0 : Int32))])) (fun _ k => XS.aloadN X4.here hx rfl (hb hby d4_29) rfl rfl k) ?_
  obtain ⟨T5, X5, e5, st5⟩ := getF X4 hx hZ hown (host := "") (Or.inl (hw _ (List.mem_of_getElem? (i := 46) rfl))) Via.refl e4 Fc2 (g := (mkF m 30 #[.val (.ref a1), .val (.ref a2), .val (.ref a2)] [(.ref a2), (.int (0 : Int32))])) rfl rfl (hb hby d4_30)
  refine Goes.step (B := T5.setTop (mkF m 33 #[.val (.ref a1), .val (.ref a2), .val (.ref a2)] [(.int (0 : Int32)), (.int (0 : Int32))])) st5 ?_
  refine Goes.step (B := T5.setTop (mkF m 36 #[.val (.ref a1), .val (.ref a2), .val (.ref a2)] [])) (fun _ k => XS.icmpNo X5.here hx rfl (hb hby d4_33) rfl (teq (by decide)).2 k) ?_
  refine Goes.step (B := T5.setTop (mkF m 37 #[.val (.ref a1), .val (.ref a2), .val (.ref a2)] [(.ref a1)])) (fun _ k => XS.aloadN X5.here hx rfl (hb hby d4_36) rfl rfl k) ?_
  obtain ⟨T6, X6, e6, st6⟩ := getF X5 hx hZ hown (host := "") (Or.inl (hw _ (List.mem_of_getElem? (i := 47) rfl))) Via.refl e5 Fv1 (g := (mkF m 37 #[.val (.ref a1), .val (.ref a2), .val (.ref a2)] [(.ref a1)])) rfl rfl (hb hby d4_37)
  refine Goes.step (B := T6.setTop (mkF m 40 #[.val (.ref a1), .val (.ref a2), .val (.ref a2)] [(.ref b1)])) st6 ?_
  refine Goes.step (B := T6.setTop (mkF m 41 #[.val (.ref a1), .val (.ref a2), .val (.ref a2)] [(.ref a2), (.ref b1)])) (fun _ k => XS.aloadN X6.here hx rfl (hb hby d4_40) rfl rfl k) ?_
  obtain ⟨T7, X7, e7, st7⟩ := getF X6 hx hZ hown (host := "") (Or.inl (hw _ (List.mem_of_getElem? (i := 47) rfl))) Via.refl e6 Fv2 (g := (mkF m 41 #[.val (.ref a1), .val (.ref a2), .val (.ref a2)] [(.ref a2), (.ref b1)])) rfl rfl (hb hby d4_41)
  refine Goes.step (B := T7.setTop (mkF m 44 #[.val (.ref a1), .val (.ref a2), .val (.ref a2)] [(.ref b2), (.ref b1)])) st7 ?_
  obtain ⟨_, _, ⟨T8, L8, k8, n8⟩, -, X8, ⟨Lc8, hQ8, l8, y8, z8⟩, st8⟩ := Jvm.LawKit.callS X7 hx (y := (⟨"java/lang/StringLatin1", "equals", "([B[B)Z"⟩ : MethodName)) hown (mvT hZ (hw _ (List.mem_of_getElem? (i := 48) rfl))) (mvT hZ (hw _ (List.mem_of_getElem? (i := 49) rfl))) (mvT hZ (hw _ (List.mem_of_getElem? (i := 50) rfl))) (mvT hZ (hw _ (List.mem_of_getElem? (i := 51) rfl))) (by decide) (backOf (W := 0) (rmLd12 l Z a0 hw [] b1 b2 k1 k2 h0 n0 O0 V1 V2) hZ (hw _ (List.mem_of_getElem? (i := 51) rfl)) (hw _ (List.mem_of_getElem? (i := 50) rfl)) (by decide) (by decide)) (g := (mkF m 44 #[.val (.ref a1), .val (.ref a2), .val (.ref a2)] [(.ref b2), (.ref b1)])) rfl (by rw [hml]; rfl) (argsL := [(.ref b1), (.ref b2)]) (rest := []) (lenOf pd_1 rfl) rfl (by show 2 * 0 + _ ≤ _; exact Nat.le_of_eq rfl) (hb hby d4_44) (fun _ _ => ⟨rfl, e7, (by decide : 0 + 0 ≤ _), (by decide : 0 + 0 ≤ _)⟩)
  dsimp only [Pt.U, Pt.locs, Pt.cells, Pt.slots] at X8 l8 y8 z8 st8 hQ8
  subst l8 y8 z8
  obtain ⟨rfl, Nq8, eh8⟩ := hQ8
  have N8 := Fr.app N0 Nq8
  refine Goes.step (B := T8.setTop (mkF m 47 #[.val (.ref a1), .val (.ref a2), .val (.ref a2)] [(.int (0 : Int32))])) st8 ?_
  refine Goes.step (B := T8.setTop (mkF m 54 #[.val (.ref a1), .val (.ref a2), .val (.ref a2)] [])) (fun _ k => XS.ifYes X8.here hx rfl (pc0 := 47) (pc' := 54) rfl (hb hby d4_47) rfl ((if0 _ _).trans (teq (by decide)).1) (by decide) (by decide) k) ?_
  refine Goes.step (B := T8.setTop (mkF m 55 #[.val (.ref a1), .val (.ref a2), .val (.ref a2)] [(.int (0 : Int32))])) (fun _ k => XS.iconst X8.here hx rfl (hb hby d4_54) k) ?_
  exact Goes.retN X8 hx eh8 (t := .boolean) Bd.returns (by simp) hlk (hb hby d4_55) (by decide) (by decide) (⟨rfl, N8, rfl⟩)
theorem d6_0 : decode prog_73_method_4_code 0 = .ok (.aload_n 0, 1) := by decide +kernel
theorem d6_1 : decode prog_73_method_4_code 1 = .ok (.getfield 32, 3) := by decide +kernel
theorem d6_4 : decode prog_73_method_4_code 4 = .ok (.areturn, 1) := by decide +kernel
theorem ef_rm6 (m : MethodId) (x0 : Addr) : entryFrame m #[(.ref x0)] 1 = mkF m 0 #[.val (.ref x0)] [] := by first | (simp [entryFrame, mkF, argsToLocals, Value.category]; done) | rfl
def Q6 (Z : State) (a1 : Addr) (r1 : Addr) (h0 : Heap) (n0 : Nat) (v : Option Value) (h : Heap) (L : List Loc) : Prop := v = some (.ref r1) ∧ Fr n0 L ∧ h = h0
set_option maxRecDepth 65536 in
set_option maxHeartbeats 40000000 in
theorem rm6 (l : Launch) (Z : State) (a0 : Array Value) (hw : ∀ d ∈ tables_1, d.before a0 Z = true) (ws : List Jvm.Cond) (a1 : Addr) (r1 : Addr) (h0 : Heap) (n0 : Nat) (O0 : Old Z n0 h0) (Fi : Fld Z h0 a1 "com/example/gridclear/gridclear/image/ImageView$Side" "indicator" "Ljava/lang/String;" (.ref r1)) :
    MetFree l (⟨"com/example/gridclear/gridclear/image/ImageView$Side", "indicator", "()Ljava/lang/String;"⟩ : MethodName) (head1 (Jvm.Cond.code (⟨"com/example/gridclear/gridclear/image/ImageView$Side", "indicator", "()Ljava/lang/String;"⟩ : MethodName) prog_73_method_4_code 1 (some (.object "java/lang/String")) :: ws) ({ frames := 0, cells := 0, slots := 0, locals := 0 } : Room)) (fun a U => a = #[(.ref a1)] ∧ Z.Warmed39 U.vm ∧ U.heap = h0) (fun _ _ _ _ _ => True) (fun _ U o U' => ∃ v L, o = .returned v ∧ Q6 Z a1 r1 h0 n0 v U'.heap L ∧ FrameEnd U o U' L ({ frames := 0, cells := 0, slots := 0, locals := 0 } : Room).cells ({ frames := 0, cells := 0, slots := 0, locals := 0 } : Room).slots) := by
  refine MetFree.of_bodySF (plainFor_of_name pn_ImageView_Side) hisR ?_
  intro p e s m args below meth c s₁ Bd hml0 hP hK
  obtain ⟨rfl, hZ, hh⟩ := hP
  have hx := Bd.exec
  have hby := Bd.bytes
  have hlk : meth.locks = false := BodyLoose.notSynchronized Bd
  have hml : c.maxLocals = 1 := hml0
  have hown : s.vm.findClass "com/example/gridclear/gridclear/image/ImageView$Side" = some m.cls := findClass_of_methodNamed Bd.named
  have hnm := (name_of_methodNamed Bd.named Bd.method).1
  have X0 : Stand p l e ({ frames := 0, cells := 0, slots := 0, locals := 0 } : Room) s m #[(.ref a1)] below meth c s₁ [] 0 0 := Stand.of_body Bd
  have e0 : s₁.heap = h0 := by rw [← hh, Bd.state]; rfl
  have N0 := Fr.nil n0
  show Goes p e below s (Q6 Z a1 r1 h0 n0) ({ frames := 0, cells := 0, slots := 0, locals := 0 } : Room).cells ({ frames := 0, cells := 0, slots := 0, locals := 0 } : Room).slots (s₁.setTop (entryFrame m #[(.ref a1)] 1))
  refine Goes.enter (g' := (mkF m 0 #[.val (.ref a1)] [])) (ef_rm6 m a1) ?_
  refine Goes.step (B := s₁.setTop (mkF m 1 #[.val (.ref a1)] [(.ref a1)])) (fun _ k => XS.aloadN X0.here hx rfl (hb hby d6_0) rfl rfl k) ?_
  obtain ⟨T1, X1, e1, st1⟩ := getF X0 hx hZ hown (host := "") (Or.inl (hw _ (List.mem_of_getElem? (i := 24) rfl))) Via.refl e0 Fi (g := (mkF m 1 #[.val (.ref a1)] [(.ref a1)])) rfl rfl (hb hby d6_1)
  refine Goes.step (B := T1.setTop (mkF m 4 #[.val (.ref a1)] [(.ref r1)])) st1 ?_
  exact Goes.retA X1 hx e1 Bd.returns rfl rfl hlk (hb hby d6_4) (by decide) (by decide) (⟨rfl, N0, rfl⟩)
theorem d7_0 : decode prog_73_method_7_code 0 = .ok (.invokestatic 39, 3) := by decide +kernel
theorem d7_3 : decode prog_73_method_7_code 3 = .ok (.astore_n 1, 1) := by decide +kernel
theorem d7_4 : decode prog_73_method_7_code 4 = .ok (.aload_n 1, 1) := by decide +kernel
theorem d7_5 : decode prog_73_method_7_code 5 = .ok (.arraylength, 1) := by decide +kernel
theorem d7_6 : decode prog_73_method_7_code 6 = .ok (.istore_n 2, 1) := by decide +kernel
theorem d7_7 : decode prog_73_method_7_code 7 = .ok (.iconst 0, 1) := by decide +kernel
theorem d7_8 : decode prog_73_method_7_code 8 = .ok (.istore_n 3, 1) := by decide +kernel
theorem d7_9 : decode prog_73_method_7_code 9 = .ok (.iload_n 3, 1) := by decide +kernel
theorem d7_10 : decode prog_73_method_7_code 10 = .ok (.iload_n 2, 1) := by decide +kernel
theorem d7_11 : decode prog_73_method_7_code 11 = .ok (.if_icmp .ge 29, 3) := by decide +kernel
theorem d7_14 : decode prog_73_method_7_code 14 = .ok (.aload_n 1, 1) := by decide +kernel
theorem d7_15 : decode prog_73_method_7_code 15 = .ok (.iload_n 3, 1) := by decide +kernel
theorem d7_16 : decode prog_73_method_7_code 16 = .ok (.aaload, 1) := by decide +kernel
theorem d7_17 : decode prog_73_method_7_code 17 = .ok (.astore 4, 2) := by decide +kernel
theorem d7_19 : decode prog_73_method_7_code 19 = .ok (.aload 4, 2) := by decide +kernel
theorem d7_21 : decode prog_73_method_7_code 21 = .ok (.getfield 32, 3) := by decide +kernel
theorem d7_24 : decode prog_73_method_7_code 24 = .ok (.aload_n 0, 1) := by decide +kernel
theorem d7_25 : decode prog_73_method_7_code 25 = .ok (.invokevirtual 45, 3) := by decide +kernel
theorem pd_2 : parseMethodDescriptor "(Ljava/lang/Object;)Z" = some ⟨[(.object "java/lang/Object")], some .boolean⟩ := by decide +kernel
theorem d7_28 : decode prog_73_method_7_code 28 = .ok (.ifCond .eq 6, 3) := by decide +kernel
theorem d7_31 : decode prog_73_method_7_code 31 = .ok (.aload 4, 2) := by decide +kernel
theorem d7_33 : decode prog_73_method_7_code 33 = .ok (.areturn, 1) := by decide +kernel
theorem ef_rmOf0 (m : MethodId) (x0 : Addr) : entryFrame m #[(.ref x0)] 5 = mkF m 0 #[.val (.ref x0), .unset, .unset, .unset, .unset] [] := by first | (simp [entryFrame, mkF, argsToLocals, Value.category]; done) | rfl
def QOf0 (Z : State) (a__VALUES : Addr) (a_FRONT_BW : Addr) (a_BACK_BW : Addr) (a_FRONT_GREY : Addr) (a_FRONT_BW_indicator : Addr) (a_BACK_BW_indicator : Addr) (a_FRONT_GREY_indicator : Addr) (a_FRONT_BW_indicator_value : Addr) (a_BACK_BW_indicator_value : Addr) (a_FRONT_GREY_indicator_value : Addr) (k__VALUES : ClassId) (k_FRONT_BW_indicator_value : ClassId) (k_BACK_BW_indicator_value : ClassId) (k_FRONT_GREY_indicator_value : ClassId) (cs : Int32) (h0 : Heap) (n0 : Nat) (v : Option Value) (h : Heap) (L : List Loc) : Prop := v = some (.ref a_FRONT_BW) ∧ Fr n0 L ∧ Keep h0 h []
set_option maxRecDepth 65536 in
set_option maxHeartbeats 40000000 in
theorem rmOf0 (l : Launch) (Z : State) (a0 : Array Value) (hw : ∀ d ∈ tables_1, d.before a0 Z = true) (ws : List Jvm.Cond) (a__VALUES : Addr) (a_FRONT_BW : Addr) (a_BACK_BW : Addr) (a_FRONT_GREY : Addr) (a_FRONT_BW_indicator : Addr) (a_BACK_BW_indicator : Addr) (a_FRONT_GREY_indicator : Addr) (a_FRONT_BW_indicator_value : Addr) (a_BACK_BW_indicator_value : Addr) (a_FRONT_GREY_indicator_value : Addr) (k__VALUES : ClassId) (k_FRONT_BW_indicator_value : ClassId) (k_BACK_BW_indicator_value : ClassId) (k_FRONT_GREY_indicator_value : ClassId) (cs : Int32) (h0 : Heap) (n0 : Nat) (O0 : Old Z n0 h0) (FS : OwnSt Z a__VALUES a_FRONT_BW a_BACK_BW a_FRONT_GREY a_FRONT_BW_indicator a_BACK_BW_indicator a_FRONT_GREY_indicator a_FRONT_BW_indicator_value a_BACK_BW_indicator_value a_FRONT_GREY_indicator_value k__VALUES k_FRONT_BW_indicator_value k_BACK_BW_indicator_value k_FRONT_GREY_indicator_value cs) :
    MetFree l (⟨"com/example/gridclear/gridclear/image/ImageView$Side", "of", "(Ljava/lang/String;)Lcom/example/gridclear/gridclear/image/ImageView$Side;"⟩ : MethodName) (head1 (Jvm.Cond.code (⟨"com/example/gridclear/gridclear/image/ImageView$Side", "of", "(Ljava/lang/String;)Lcom/example/gridclear/gridclear/image/ImageView$Side;"⟩ : MethodName) prog_73_method_7_code 5 (some (.object "com/example/gridclear/gridclear/image/ImageView$Side")) :: ws) ({ frames := 2, cells := 1, slots := 3, locals := 25 } : Room)) (fun a U => a = #[(.ref a_FRONT_BW_indicator)] ∧ Z.Warmed39 U.vm ∧ U.heap = h0) (fun _ _ _ _ _ => True) (fun _ U o U' => ∃ v L, o = .returned v ∧ QOf0 Z a__VALUES a_FRONT_BW a_BACK_BW a_FRONT_GREY a_FRONT_BW_indicator a_BACK_BW_indicator a_FRONT_GREY_indicator a_FRONT_BW_indicator_value a_BACK_BW_indicator_value a_FRONT_GREY_indicator_value k__VALUES k_FRONT_BW_indicator_value k_BACK_BW_indicator_value k_FRONT_GREY_indicator_value cs h0 n0 v U'.heap L ∧ FrameEnd U o U' L ({ frames := 2, cells := 1, slots := 3, locals := 25 } : Room).cells ({ frames := 2, cells := 1, slots := 3, locals := 25 } : Room).slots) := by
  refine MetFree.of_bodySF (plainFor_of_name pn_ImageView_Side) hisR ?_
  intro p e s m args below meth c s₁ Bd hml0 hP hK
  obtain ⟨rfl, hZ, hh⟩ := hP
  have hx := Bd.exec
  have hby := Bd.bytes
  have hlk : meth.locks = false := BodyLoose.notSynchronized Bd
  have hml : c.maxLocals = 5 := hml0
  have hown : s.vm.findClass "com/example/gridclear/gridclear/image/ImageView$Side" = some m.cls := findClass_of_methodNamed Bd.named
  have hnm := (name_of_methodNamed Bd.named Bd.method).1
  have X0 : Stand p l e ({ frames := 2, cells := 1, slots := 3, locals := 25 } : Room) s m #[(.ref a_FRONT_BW_indicator)] below meth c s₁ [] 0 0 := Stand.of_body Bd
  have e0 : s₁.heap = h0 := by rw [← hh, Bd.state]; rfl
  have N0 := Fr.nil n0
  show Goes p e below s (QOf0 Z a__VALUES a_FRONT_BW a_BACK_BW a_FRONT_GREY a_FRONT_BW_indicator a_BACK_BW_indicator a_FRONT_GREY_indicator a_FRONT_BW_indicator_value a_BACK_BW_indicator_value a_FRONT_GREY_indicator_value k__VALUES k_FRONT_BW_indicator_value k_BACK_BW_indicator_value k_FRONT_GREY_indicator_value cs h0 n0) ({ frames := 2, cells := 1, slots := 3, locals := 25 } : Room).cells ({ frames := 2, cells := 1, slots := 3, locals := 25 } : Room).slots (s₁.setTop (entryFrame m #[(.ref a_FRONT_BW_indicator)] 5))
  refine Goes.enter (g' := (mkF m 0 #[.val (.ref a_FRONT_BW_indicator), .unset, .unset, .unset, .unset] [])) (ef_rmOf0 m a_FRONT_BW_indicator) ?_
  have FS0 := FS
  obtain ⟨S__VALUES, E__VALUES, S_FRONT_BW, E_FRONT_BW, S_BACK_BW, E_BACK_BW, S_FRONT_GREY, E_FRONT_GREY, F_FRONT_BW_indicator, E_FRONT_BW_indicator, F_BACK_BW_indicator, E_BACK_BW_indicator, F_FRONT_GREY_indicator, E_FRONT_GREY_indicator, F_FRONT_BW_indicator_coder, F_FRONT_BW_indicator_value, F_BACK_BW_indicator_coder, F_BACK_BW_indicator_value, F_FRONT_GREY_indicator_coder, F_FRONT_GREY_indicator_value, ne_a_FRONT_BW_indicator_a_FRONT_GREY_indicator, ne_a_BACK_BW_indicator_a_FRONT_GREY_indicator, ne_a_BACK_BW_indicator_a_FRONT_BW_indicator, V__VALUES, V_FRONT_BW_indicator_value, V_BACK_BW_indicator_value, V_FRONT_GREY_indicator_value, S_COMPACT_STRINGS, hcs⟩ := FS0
  have f2 := E__VALUES.ext O0.2
  have lt_a__VALUES_1 := f2.lt
  have f3 := E_FRONT_BW.ext O0.2
  have lt_a_FRONT_BW_1 := f3.lt
  have f4 := E_BACK_BW.ext O0.2
  have lt_a_BACK_BW_1 := f4.lt
  have f5 := E_FRONT_GREY.ext O0.2
  have lt_a_FRONT_GREY_1 := f5.lt
  have f6 := E_FRONT_BW_indicator.ext O0.2
  have lt_a_FRONT_BW_indicator_1 := f6.lt
  have f7 := E_BACK_BW_indicator.ext O0.2
  have lt_a_BACK_BW_indicator_1 := f7.lt
  have f8 := E_FRONT_GREY_indicator.ext O0.2
  have lt_a_FRONT_GREY_indicator_1 := f8.lt
  have f9 := V_FRONT_BW_indicator_value.ext O0.2
  have lt_a_FRONT_BW_indicator_value_1 := f9.lt
  have f10 := V_BACK_BW_indicator_value.ext O0.2
  have lt_a_BACK_BW_indicator_value_1 := f10.lt
  have f11 := V_FRONT_GREY_indicator_value.ext O0.2
  have lt_a_FRONT_GREY_indicator_value_1 := f11.lt
  obtain ⟨_, _, ⟨T1, L1, k1, n1⟩, -, X1, ⟨Lc1, hQ1, l1, y1, z1⟩, st1⟩ := Jvm.LawKit.callS X0 hx (y := (⟨"com/example/gridclear/gridclear/image/ImageView$Side", "values", "()[Lcom/example/gridclear/gridclear/image/ImageView$Side;"⟩ : MethodName)) hown (mvT hZ (hw _ (List.mem_of_getElem? (i := 4) rfl))) (mvT hZ (hw _ (List.mem_of_getElem? (i := 5) rfl))) (mvT hZ (hw _ (List.mem_of_getElem? (i := 2) rfl))) (mvT hZ (hw _ (List.mem_of_getElem? (i := 6) rfl))) (by decide) (backOf (W := 0) (rm2 l Z a0 hw [] a__VALUES a_FRONT_BW a_BACK_BW a_FRONT_GREY a_FRONT_BW_indicator a_BACK_BW_indicator a_FRONT_GREY_indicator a_FRONT_BW_indicator_value a_BACK_BW_indicator_value a_FRONT_GREY_indicator_value k__VALUES k_FRONT_BW_indicator_value k_BACK_BW_indicator_value k_FRONT_GREY_indicator_value cs h0 n0 O0 FS) hZ (hw _ (List.mem_of_getElem? (i := 6) rfl)) (hw _ (List.mem_of_getElem? (i := 2) rfl)) (by decide) (by decide)) (g := (mkF m 0 #[.val (.ref a_FRONT_BW_indicator), .unset, .unset, .unset, .unset] [])) rfl (by rw [hml]; rfl) (argsL := []) (rest := []) (lenOf pd_0 rfl) rfl (by show 2 * 0 + _ ≤ _; exact Nat.le_of_eq rfl) (hb hby d7_0) (fun _ _ => ⟨rfl, e0, (by decide : 0 + 1 ≤ _), (by decide : 0 + 3 ≤ _)⟩)
  dsimp only [Pt.U, Pt.locs, Pt.cells, Pt.slots] at X1 l1 y1 z1 st1 hQ1
  subst l1 y1 z1
  obtain ⟨fb1, fk1, rfl, Nq1, Kp1, gb1, sb1, Vb1, Eb1⟩ := hQ1
  have ne_a__VALUES_fb1 : a__VALUES ≠ fb1 := Nat.ne_of_lt (Nat.lt_of_lt_of_le lt_a__VALUES_1 sb1)
  have ne_a_FRONT_BW_fb1 : a_FRONT_BW ≠ fb1 := Nat.ne_of_lt (Nat.lt_of_lt_of_le lt_a_FRONT_BW_1 sb1)
  have ne_a_BACK_BW_fb1 : a_BACK_BW ≠ fb1 := Nat.ne_of_lt (Nat.lt_of_lt_of_le lt_a_BACK_BW_1 sb1)
  have ne_a_FRONT_GREY_fb1 : a_FRONT_GREY ≠ fb1 := Nat.ne_of_lt (Nat.lt_of_lt_of_le lt_a_FRONT_GREY_1 sb1)
  have ne_a_FRONT_BW_indicator_fb1 : a_FRONT_BW_indicator ≠ fb1 := Nat.ne_of_lt (Nat.lt_of_lt_of_le lt_a_FRONT_BW_indicator_1 sb1)
  have ne_a_BACK_BW_indicator_fb1 : a_BACK_BW_indicator ≠ fb1 := Nat.ne_of_lt (Nat.lt_of_lt_of_le lt_a_BACK_BW_indicator_1 sb1)
  have ne_a_FRONT_GREY_indicator_fb1 : a_FRONT_GREY_indicator ≠ fb1 := Nat.ne_of_lt (Nat.lt_of_lt_of_le lt_a_FRONT_GREY_indicator_1 sb1)
  have ne_a_FRONT_BW_indicator_value_fb1 : a_FRONT_BW_indicator_value ≠ fb1 := Nat.ne_of_lt (Nat.lt_of_lt_of_le lt_a_FRONT_BW_indicator_value_1 sb1)
  have ne_a_BACK_BW_indicator_value_fb1 : a_BACK_BW_indicator_value ≠ fb1 := Nat.ne_of_lt (Nat.lt_of_lt_of_le lt_a_BACK_BW_indicator_value_1 sb1)
  have ne_a_FRONT_GREY_indicator_value_fb1 : a_FRONT_GREY_indicator_value ≠ fb1 := Nat.ne_of_lt (Nat.lt_of_lt_of_le lt_a_FRONT_GREY_indicator_value_1 sb1)
  have O_1 := O0.keep Kp1 all0
  have K_1 := (Keep.refl h0 []).trans Kp1 all0
  have N1 := Fr.app N0 Nq1
  refine Goes.step (B := T1.setTop (mkF m 3 #[.val (.ref a_FRONT_BW_indicator), .unset, .unset, .unset, .unset] [(.ref fb1)])) st1 ?_
  refine Goes.step (B := T1.setTop (mkF m 4 #[.val (.ref a_FRONT_BW_indicator), .val (.ref fb1), .unset, .unset, .unset] [])) (fun _ k => XS.astoreN X1.here hx rfl (hb hby d7_3) rfl rfl (l' := #[.val (.ref a_FRONT_BW_indicator), .val (.ref fb1), .unset, .unset, .unset]) rfl k) ?_
  refine Goes.step (B := T1.setTop (mkF m 5 #[.val (.ref a_FRONT_BW_indicator), .val (.ref fb1), .unset, .unset, .unset] [(.ref fb1)])) (fun _ k => XS.aloadN X1.here hx rfl (hb hby d7_4) rfl rfl k) ?_
  obtain ⟨c12, Ar12, -, Sz12, Nn12, -, -⟩ := id Vb1
  have len12 := X1.arraylength hx (by exact Ar12.1) (State.isArrayOf_alike hZ.alike Ar12.2.1) (g := (mkF m 5 #[.val (.ref a_FRONT_BW_indicator), .val (.ref fb1), .unset, .unset, .unset] [(.ref fb1)])) rfl rfl (hb hby d7_5)
  rw [len_of Sz12 Nn12] at len12
  refine Goes.step (B := T1.setTop (mkF m 6 #[.val (.ref a_FRONT_BW_indicator), .val (.ref fb1), .unset, .unset, .unset] [(.int (3 : Int32))])) len12 ?_
  refine Goes.step (B := T1.setTop (mkF m 7 #[.val (.ref a_FRONT_BW_indicator), .val (.ref fb1), .val (.int (3 : Int32)), .unset, .unset] [])) (fun _ k => XS.istoreN X1.here hx rfl (hb hby d7_6) rfl (l' := #[.val (.ref a_FRONT_BW_indicator), .val (.ref fb1), .val (.int (3 : Int32)), .unset, .unset]) rfl k) ?_
  refine Goes.step (B := T1.setTop (mkF m 8 #[.val (.ref a_FRONT_BW_indicator), .val (.ref fb1), .val (.int (3 : Int32)), .unset, .unset] [(.int (0 : Int32))])) (fun _ k => XS.iconst X1.here hx rfl (hb hby d7_7) k) ?_
  refine Goes.step (B := T1.setTop (mkF m 9 #[.val (.ref a_FRONT_BW_indicator), .val (.ref fb1), .val (.int (3 : Int32)), .val (.int (0 : Int32)), .unset] [])) (fun _ k => XS.istoreN X1.here hx rfl (hb hby d7_8) rfl (l' := #[.val (.ref a_FRONT_BW_indicator), .val (.ref fb1), .val (.int (3 : Int32)), .val (.int (0 : Int32)), .unset]) rfl k) ?_
  refine Goes.step (B := T1.setTop (mkF m 10 #[.val (.ref a_FRONT_BW_indicator), .val (.ref fb1), .val (.int (3 : Int32)), .val (.int (0 : Int32)), .unset] [(.int (0 : Int32))])) (fun _ k => XS.iloadN X1.here hx rfl (hb hby d7_9) rfl k) ?_
  refine Goes.step (B := T1.setTop (mkF m 11 #[.val (.ref a_FRONT_BW_indicator), .val (.ref fb1), .val (.int (3 : Int32)), .val (.int (0 : Int32)), .unset] [(.int (3 : Int32)), (.int (0 : Int32))])) (fun _ k => XS.iloadN X1.here hx rfl (hb hby d7_10) rfl k) ?_
  refine Goes.step (B := T1.setTop (mkF m 14 #[.val (.ref a_FRONT_BW_indicator), .val (.ref fb1), .val (.int (3 : Int32)), .val (.int (0 : Int32)), .unset] [])) (fun _ k => XS.icmpNo X1.here hx rfl (hb hby d7_11) rfl (tlt (by decide)).2.1 k) ?_
  refine Goes.step (B := T1.setTop (mkF m 15 #[.val (.ref a_FRONT_BW_indicator), .val (.ref fb1), .val (.int (3 : Int32)), .val (.int (0 : Int32)), .unset] [(.ref fb1)])) (fun _ k => XS.aloadN X1.here hx rfl (hb hby d7_14) rfl rfl k) ?_
  refine Goes.step (B := T1.setTop (mkF m 16 #[.val (.ref a_FRONT_BW_indicator), .val (.ref fb1), .val (.int (3 : Int32)), .val (.int (0 : Int32)), .unset] [(.int (0 : Int32)), (.ref fb1)])) (fun _ k => XS.iloadN X1.here hx rfl (hb hby d7_15) rfl k) ?_
  obtain ⟨c13, Ar13, -, Sz13, Nn13, Hs13, -⟩ := id Vb1
  have hin13 : ¬ ((0 : Int32) < 0 ∨ c13.slots.size ≤ ((0 : Int32)).toNatClampNeg) := inb_of Sz13 ⟨by decide, by decide⟩
  refine Goes.step (B := T1.setTop (mkF m 17 #[.val (.ref a_FRONT_BW_indicator), .val (.ref fb1), .val (.int (3 : Int32)), .val (.int (0 : Int32)), .unset] [(.ref a_FRONT_BW)])) (X1.aaload hx (j := (0 : Int32)) (v := (.ref a_FRONT_BW)) (by exact Ar13.1) (State.isArrayOf_alike hZ.alike Ar13.2.1) rfl Ar13.2.2 hin13 (Has.at Hs13 hin13 rfl) (g := (mkF m 16 #[.val (.ref a_FRONT_BW_indicator), .val (.ref fb1), .val (.int (3 : Int32)), .val (.int (0 : Int32)), .unset] [(.int (0 : Int32)), (.ref fb1)])) rfl rfl (hb hby d7_16)) ?_
  refine Goes.step (B := T1.setTop (mkF m 19 #[.val (.ref a_FRONT_BW_indicator), .val (.ref fb1), .val (.int (3 : Int32)), .val (.int (0 : Int32)), .val (.ref a_FRONT_BW)] [])) (fun _ k => XS.astore X1.here hx rfl (hb hby d7_17) rfl rfl (l' := #[.val (.ref a_FRONT_BW_indicator), .val (.ref fb1), .val (.int (3 : Int32)), .val (.int (0 : Int32)), .val (.ref a_FRONT_BW)]) rfl k) ?_
  refine Goes.step (B := T1.setTop (mkF m 21 #[.val (.ref a_FRONT_BW_indicator), .val (.ref fb1), .val (.int (3 : Int32)), .val (.int (0 : Int32)), .val (.ref a_FRONT_BW)] [(.ref a_FRONT_BW)])) (fun _ k => XS.aload X1.here hx rfl (hb hby d7_19) rfl rfl k) ?_
  have f14 := F_FRONT_BW_indicator.ext O_1.2
  obtain ⟨T15, X15, e15, st15⟩ := getF X1 hx hZ hown (host := "") (Or.inl (hw _ (List.mem_of_getElem? (i := 24) rfl))) Via.refl rfl f14 (g := (mkF m 21 #[.val (.ref a_FRONT_BW_indicator), .val (.ref fb1), .val (.int (3 : Int32)), .val (.int (0 : Int32)), .val (.ref a_FRONT_BW)] [(.ref a_FRONT_BW)])) rfl rfl (hb hby d7_21)
  refine Goes.step (B := T15.setTop (mkF m 24 #[.val (.ref a_FRONT_BW_indicator), .val (.ref fb1), .val (.int (3 : Int32)), .val (.int (0 : Int32)), .val (.ref a_FRONT_BW)] [(.ref a_FRONT_BW_indicator)])) st15 ?_
  refine Goes.step (B := T15.setTop (mkF m 25 #[.val (.ref a_FRONT_BW_indicator), .val (.ref fb1), .val (.int (3 : Int32)), .val (.int (0 : Int32)), .val (.ref a_FRONT_BW)] [(.ref a_FRONT_BW_indicator), (.ref a_FRONT_BW_indicator)])) (fun _ k => XS.aloadN X15.here hx rfl (hb hby d7_24) rfl rfl k) ?_
  have f17 := E_FRONT_BW_indicator.ext O_1.2
  obtain ⟨cq16, kq16, qa16, qb16, qc16⟩ := isOf hZ e15 f17
  obtain ⟨_, _, ⟨T16, L16, k16, n16⟩, -, X16, ⟨Lc16, hQ16, l16, y16, z16⟩, st16⟩ := X15.virtualBack hx (y := (⟨"java/lang/String", "equals", "(Ljava/lang/Object;)Z"⟩ : MethodName)) (z := (⟨"java/lang/String", "equals", "(Ljava/lang/Object;)Z"⟩ : MethodName)) hown (mvT hZ (hw _ (List.mem_of_getElem? (i := 66) rfl))) (mvT hZ (hw _ (List.mem_of_getElem? (i := 40) rfl))) (notFace_of_selects (args := #[]) (mvT hZ (hw _ (List.mem_of_getElem? (i := 42) rfl)))) (mvT hZ (hw _ (List.mem_of_getElem? (i := 42) rfl))) (mvT hZ (hw _ (List.mem_of_getElem? (i := 41) rfl))) (by decide) (backOf (W := 0) (rmES l Z a0 hw [] a_FRONT_BW_indicator T1.heap n0 O_1 ) hZ (hw _ (List.mem_of_getElem? (i := 43) rfl)) (hw _ (List.mem_of_getElem? (i := 32) rfl)) (by decide) (by decide)) qa16 qc16 (g := (mkF m 25 #[.val (.ref a_FRONT_BW_indicator), .val (.ref fb1), .val (.int (3 : Int32)), .val (.int (0 : Int32)), .val (.ref a_FRONT_BW)] [(.ref a_FRONT_BW_indicator), (.ref a_FRONT_BW_indicator)])) rfl (by rw [hml]; rfl) (Steps.refl _) (argsL := [(.ref a_FRONT_BW_indicator)]) (rest := []) (lenOf pd_2 rfl) rfl (by show 2 * 0 + _ ≤ _; exact Nat.le_of_eq rfl) (hb hby d7_25) (fun _ _ => ⟨rfl, e15, (by decide : 1 + 0 ≤ _), (by decide : 3 + 0 ≤ _)⟩)
  dsimp only [Pt.U, Pt.locs, Pt.cells, Pt.slots] at X16 l16 y16 z16 st16 hQ16
  subst l16 y16 z16
  obtain ⟨rfl, Nq16, eh16⟩ := hQ16
  have N16 := Fr.app N1 Nq16
  refine Goes.via (B := T16.setTop (mkF m 28 #[.val (.ref a_FRONT_BW_indicator), .val (.ref fb1), .val (.int (3 : Int32)), .val (.int (0 : Int32)), .val (.ref a_FRONT_BW)] [(.int (1 : Int32))])) st16 ?_
  refine Goes.step (B := T16.setTop (mkF m 31 #[.val (.ref a_FRONT_BW_indicator), .val (.ref fb1), .val (.int (3 : Int32)), .val (.int (0 : Int32)), .val (.ref a_FRONT_BW)] [])) (fun _ k => XS.ifNo X16.here hx rfl (hb hby d7_28) rfl ((if0 _ _).trans (feq (by decide)).1) k) ?_
  refine Goes.step (B := T16.setTop (mkF m 33 #[.val (.ref a_FRONT_BW_indicator), .val (.ref fb1), .val (.int (3 : Int32)), .val (.int (0 : Int32)), .val (.ref a_FRONT_BW)] [(.ref a_FRONT_BW)])) (fun _ k => XS.aload X16.here hx rfl (hb hby d7_31) rfl rfl k) ?_
  exact Goes.retA X16 hx eh16 Bd.returns rfl rfl hlk (hb hby d7_33) (by decide) (by decide) (⟨rfl, N16, K_1⟩)
theorem d7_34 : decode prog_73_method_7_code 34 = .ok (.iinc 3 1, 3) := by decide +kernel
theorem d7_37 : decode prog_73_method_7_code 37 = .ok (.goto (-28), 3) := by decide +kernel
theorem ef_rmOf1 (m : MethodId) (x0 : Addr) : entryFrame m #[(.ref x0)] 5 = mkF m 0 #[.val (.ref x0), .unset, .unset, .unset, .unset] [] := by first | (simp [entryFrame, mkF, argsToLocals, Value.category]; done) | rfl
def QOf1 (Z : State) (a__VALUES : Addr) (a_FRONT_BW : Addr) (a_BACK_BW : Addr) (a_FRONT_GREY : Addr) (a_FRONT_BW_indicator : Addr) (a_BACK_BW_indicator : Addr) (a_FRONT_GREY_indicator : Addr) (a_FRONT_BW_indicator_value : Addr) (a_BACK_BW_indicator_value : Addr) (a_FRONT_GREY_indicator_value : Addr) (k__VALUES : ClassId) (k_FRONT_BW_indicator_value : ClassId) (k_BACK_BW_indicator_value : ClassId) (k_FRONT_GREY_indicator_value : ClassId) (cs : Int32) (h0 : Heap) (n0 : Nat) (v : Option Value) (h : Heap) (L : List Loc) : Prop := v = some (.ref a_BACK_BW) ∧ Fr n0 L ∧ Keep h0 h []
set_option maxRecDepth 65536 in
set_option maxHeartbeats 40000000 in
theorem rmOf1 (l : Launch) (Z : State) (a0 : Array Value) (hw : ∀ d ∈ tables_1, d.before a0 Z = true) (ws : List Jvm.Cond) (a__VALUES : Addr) (a_FRONT_BW : Addr) (a_BACK_BW : Addr) (a_FRONT_GREY : Addr) (a_FRONT_BW_indicator : Addr) (a_BACK_BW_indicator : Addr) (a_FRONT_GREY_indicator : Addr) (a_FRONT_BW_indicator_value : Addr) (a_BACK_BW_indicator_value : Addr) (a_FRONT_GREY_indicator_value : Addr) (k__VALUES : ClassId) (k_FRONT_BW_indicator_value : ClassId) (k_BACK_BW_indicator_value : ClassId) (k_FRONT_GREY_indicator_value : ClassId) (cs : Int32) (h0 : Heap) (n0 : Nat) (O0 : Old Z n0 h0) (FS : OwnSt Z a__VALUES a_FRONT_BW a_BACK_BW a_FRONT_GREY a_FRONT_BW_indicator a_BACK_BW_indicator a_FRONT_GREY_indicator a_FRONT_BW_indicator_value a_BACK_BW_indicator_value a_FRONT_GREY_indicator_value k__VALUES k_FRONT_BW_indicator_value k_BACK_BW_indicator_value k_FRONT_GREY_indicator_value cs) :
    MetFree l (⟨"com/example/gridclear/gridclear/image/ImageView$Side", "of", "(Ljava/lang/String;)Lcom/example/gridclear/gridclear/image/ImageView$Side;"⟩ : MethodName) (head1 (Jvm.Cond.code (⟨"com/example/gridclear/gridclear/image/ImageView$Side", "of", "(Ljava/lang/String;)Lcom/example/gridclear/gridclear/image/ImageView$Side;"⟩ : MethodName) prog_73_method_7_code 5 (some (.object "com/example/gridclear/gridclear/image/ImageView$Side")) :: ws) ({ frames := 2, cells := 1, slots := 3, locals := 28 } : Room)) (fun a U => a = #[(.ref a_BACK_BW_indicator)] ∧ Z.Warmed39 U.vm ∧ U.heap = h0) (fun _ _ _ _ _ => True) (fun _ U o U' => ∃ v L, o = .returned v ∧ QOf1 Z a__VALUES a_FRONT_BW a_BACK_BW a_FRONT_GREY a_FRONT_BW_indicator a_BACK_BW_indicator a_FRONT_GREY_indicator a_FRONT_BW_indicator_value a_BACK_BW_indicator_value a_FRONT_GREY_indicator_value k__VALUES k_FRONT_BW_indicator_value k_BACK_BW_indicator_value k_FRONT_GREY_indicator_value cs h0 n0 v U'.heap L ∧ FrameEnd U o U' L ({ frames := 2, cells := 1, slots := 3, locals := 28 } : Room).cells ({ frames := 2, cells := 1, slots := 3, locals := 28 } : Room).slots) := by
  refine MetFree.of_bodySF (plainFor_of_name pn_ImageView_Side) hisR ?_
  intro p e s m args below meth c s₁ Bd hml0 hP hK
  obtain ⟨rfl, hZ, hh⟩ := hP
  have hx := Bd.exec
  have hby := Bd.bytes
  have hlk : meth.locks = false := BodyLoose.notSynchronized Bd
  have hml : c.maxLocals = 5 := hml0
  have hown : s.vm.findClass "com/example/gridclear/gridclear/image/ImageView$Side" = some m.cls := findClass_of_methodNamed Bd.named
  have hnm := (name_of_methodNamed Bd.named Bd.method).1
  have X0 : Stand p l e ({ frames := 2, cells := 1, slots := 3, locals := 28 } : Room) s m #[(.ref a_BACK_BW_indicator)] below meth c s₁ [] 0 0 := Stand.of_body Bd
  have e0 : s₁.heap = h0 := by rw [← hh, Bd.state]; rfl
  have N0 := Fr.nil n0
  show Goes p e below s (QOf1 Z a__VALUES a_FRONT_BW a_BACK_BW a_FRONT_GREY a_FRONT_BW_indicator a_BACK_BW_indicator a_FRONT_GREY_indicator a_FRONT_BW_indicator_value a_BACK_BW_indicator_value a_FRONT_GREY_indicator_value k__VALUES k_FRONT_BW_indicator_value k_BACK_BW_indicator_value k_FRONT_GREY_indicator_value cs h0 n0) ({ frames := 2, cells := 1, slots := 3, locals := 28 } : Room).cells ({ frames := 2, cells := 1, slots := 3, locals := 28 } : Room).slots (s₁.setTop (entryFrame m #[(.ref a_BACK_BW_indicator)] 5))
  refine Goes.enter (g' := (mkF m 0 #[.val (.ref a_BACK_BW_indicator), .unset, .unset, .unset, .unset] [])) (ef_rmOf1 m a_BACK_BW_indicator) ?_
  have FS0 := FS
  obtain ⟨S__VALUES, E__VALUES, S_FRONT_BW, E_FRONT_BW, S_BACK_BW, E_BACK_BW, S_FRONT_GREY, E_FRONT_GREY, F_FRONT_BW_indicator, E_FRONT_BW_indicator, F_BACK_BW_indicator, E_BACK_BW_indicator, F_FRONT_GREY_indicator, E_FRONT_GREY_indicator, F_FRONT_BW_indicator_coder, F_FRONT_BW_indicator_value, F_BACK_BW_indicator_coder, F_BACK_BW_indicator_value, F_FRONT_GREY_indicator_coder, F_FRONT_GREY_indicator_value, ne_a_FRONT_BW_indicator_a_FRONT_GREY_indicator, ne_a_BACK_BW_indicator_a_FRONT_GREY_indicator, ne_a_BACK_BW_indicator_a_FRONT_BW_indicator, V__VALUES, V_FRONT_BW_indicator_value, V_BACK_BW_indicator_value, V_FRONT_GREY_indicator_value, S_COMPACT_STRINGS, hcs⟩ := FS0
  have f2 := E__VALUES.ext O0.2
  have lt_a__VALUES_1 := f2.lt
  have f3 := E_FRONT_BW.ext O0.2
  have lt_a_FRONT_BW_1 := f3.lt
  have f4 := E_BACK_BW.ext O0.2
  have lt_a_BACK_BW_1 := f4.lt
  have f5 := E_FRONT_GREY.ext O0.2
  have lt_a_FRONT_GREY_1 := f5.lt
  have f6 := E_FRONT_BW_indicator.ext O0.2
  have lt_a_FRONT_BW_indicator_1 := f6.lt
  have f7 := E_BACK_BW_indicator.ext O0.2
  have lt_a_BACK_BW_indicator_1 := f7.lt
  have f8 := E_FRONT_GREY_indicator.ext O0.2
  have lt_a_FRONT_GREY_indicator_1 := f8.lt
  have f9 := V_FRONT_BW_indicator_value.ext O0.2
  have lt_a_FRONT_BW_indicator_value_1 := f9.lt
  have f10 := V_BACK_BW_indicator_value.ext O0.2
  have lt_a_BACK_BW_indicator_value_1 := f10.lt
  have f11 := V_FRONT_GREY_indicator_value.ext O0.2
  have lt_a_FRONT_GREY_indicator_value_1 := f11.lt
  obtain ⟨_, _, ⟨T1, L1, k1, n1⟩, -, X1, ⟨Lc1, hQ1, l1, y1, z1⟩, st1⟩ := Jvm.LawKit.callS X0 hx (y := (⟨"com/example/gridclear/gridclear/image/ImageView$Side", "values", "()[Lcom/example/gridclear/gridclear/image/ImageView$Side;"⟩ : MethodName)) hown (mvT hZ (hw _ (List.mem_of_getElem? (i := 4) rfl))) (mvT hZ (hw _ (List.mem_of_getElem? (i := 5) rfl))) (mvT hZ (hw _ (List.mem_of_getElem? (i := 2) rfl))) (mvT hZ (hw _ (List.mem_of_getElem? (i := 6) rfl))) (by decide) (backOf (W := 0) (rm2 l Z a0 hw [] a__VALUES a_FRONT_BW a_BACK_BW a_FRONT_GREY a_FRONT_BW_indicator a_BACK_BW_indicator a_FRONT_GREY_indicator a_FRONT_BW_indicator_value a_BACK_BW_indicator_value a_FRONT_GREY_indicator_value k__VALUES k_FRONT_BW_indicator_value k_BACK_BW_indicator_value k_FRONT_GREY_indicator_value cs h0 n0 O0 FS) hZ (hw _ (List.mem_of_getElem? (i := 6) rfl)) (hw _ (List.mem_of_getElem? (i := 2) rfl)) (by decide) (by decide)) (g := (mkF m 0 #[.val (.ref a_BACK_BW_indicator), .unset, .unset, .unset, .unset] [])) rfl (by rw [hml]; rfl) (argsL := []) (rest := []) (lenOf pd_0 rfl) rfl (by show 2 * 0 + _ ≤ _; exact Nat.le_of_eq rfl) (hb hby d7_0) (fun _ _ => ⟨rfl, e0, (by decide : 0 + 1 ≤ _), (by decide : 0 + 3 ≤ _)⟩)
  dsimp only [Pt.U, Pt.locs, Pt.cells, Pt.slots] at X1 l1 y1 z1 st1 hQ1
  subst l1 y1 z1
  obtain ⟨fb1, fk1, rfl, Nq1, Kp1, gb1, sb1, Vb1, Eb1⟩ := hQ1
  have ne_a__VALUES_fb1 : a__VALUES ≠ fb1 := Nat.ne_of_lt (Nat.lt_of_lt_of_le lt_a__VALUES_1 sb1)
  have ne_a_FRONT_BW_fb1 : a_FRONT_BW ≠ fb1 := Nat.ne_of_lt (Nat.lt_of_lt_of_le lt_a_FRONT_BW_1 sb1)
  have ne_a_BACK_BW_fb1 : a_BACK_BW ≠ fb1 := Nat.ne_of_lt (Nat.lt_of_lt_of_le lt_a_BACK_BW_1 sb1)
  have ne_a_FRONT_GREY_fb1 : a_FRONT_GREY ≠ fb1 := Nat.ne_of_lt (Nat.lt_of_lt_of_le lt_a_FRONT_GREY_1 sb1)
  have ne_a_FRONT_BW_indicator_fb1 : a_FRONT_BW_indicator ≠ fb1 := Nat.ne_of_lt (Nat.lt_of_lt_of_le lt_a_FRONT_BW_indicator_1 sb1)
  have ne_a_BACK_BW_indicator_fb1 : a_BACK_BW_indicator ≠ fb1 := Nat.ne_of_lt (Nat.lt_of_lt_of_le lt_a_BACK_BW_indicator_1 sb1)
  have ne_a_FRONT_GREY_indicator_fb1 : a_FRONT_GREY_indicator ≠ fb1 := Nat.ne_of_lt (Nat.lt_of_lt_of_le lt_a_FRONT_GREY_indicator_1 sb1)
  have ne_a_FRONT_BW_indicator_value_fb1 : a_FRONT_BW_indicator_value ≠ fb1 := Nat.ne_of_lt (Nat.lt_of_lt_of_le lt_a_FRONT_BW_indicator_value_1 sb1)
  have ne_a_BACK_BW_indicator_value_fb1 : a_BACK_BW_indicator_value ≠ fb1 := Nat.ne_of_lt (Nat.lt_of_lt_of_le lt_a_BACK_BW_indicator_value_1 sb1)
  have ne_a_FRONT_GREY_indicator_value_fb1 : a_FRONT_GREY_indicator_value ≠ fb1 := Nat.ne_of_lt (Nat.lt_of_lt_of_le lt_a_FRONT_GREY_indicator_value_1 sb1)
  have O_1 := O0.keep Kp1 all0
  have K_1 := (Keep.refl h0 []).trans Kp1 all0
  have N1 := Fr.app N0 Nq1
  refine Goes.step (B := T1.setTop (mkF m 3 #[.val (.ref a_BACK_BW_indicator), .unset, .unset, .unset, .unset] [(.ref fb1)])) st1 ?_
  refine Goes.step (B := T1.setTop (mkF m 4 #[.val (.ref a_BACK_BW_indicator), .val (.ref fb1), .unset, .unset, .unset] [])) (fun _ k => XS.astoreN X1.here hx rfl (hb hby d7_3) rfl rfl (l' := #[.val (.ref a_BACK_BW_indicator), .val (.ref fb1), .unset, .unset, .unset]) rfl k) ?_
  refine Goes.step (B := T1.setTop (mkF m 5 #[.val (.ref a_BACK_BW_indicator), .val (.ref fb1), .unset, .unset, .unset] [(.ref fb1)])) (fun _ k => XS.aloadN X1.here hx rfl (hb hby d7_4) rfl rfl k) ?_
  obtain ⟨c12, Ar12, -, Sz12, Nn12, -, -⟩ := id Vb1
  have len12 := X1.arraylength hx (by exact Ar12.1) (State.isArrayOf_alike hZ.alike Ar12.2.1) (g := (mkF m 5 #[.val (.ref a_BACK_BW_indicator), .val (.ref fb1), .unset, .unset, .unset] [(.ref fb1)])) rfl rfl (hb hby d7_5)
  rw [len_of Sz12 Nn12] at len12
  refine Goes.step (B := T1.setTop (mkF m 6 #[.val (.ref a_BACK_BW_indicator), .val (.ref fb1), .unset, .unset, .unset] [(.int (3 : Int32))])) len12 ?_
  refine Goes.step (B := T1.setTop (mkF m 7 #[.val (.ref a_BACK_BW_indicator), .val (.ref fb1), .val (.int (3 : Int32)), .unset, .unset] [])) (fun _ k => XS.istoreN X1.here hx rfl (hb hby d7_6) rfl (l' := #[.val (.ref a_BACK_BW_indicator), .val (.ref fb1), .val (.int (3 : Int32)), .unset, .unset]) rfl k) ?_
  refine Goes.step (B := T1.setTop (mkF m 8 #[.val (.ref a_BACK_BW_indicator), .val (.ref fb1), .val (.int (3 : Int32)), .unset, .unset] [(.int (0 : Int32))])) (fun _ k => XS.iconst X1.here hx rfl (hb hby d7_7) k) ?_
  refine Goes.step (B := T1.setTop (mkF m 9 #[.val (.ref a_BACK_BW_indicator), .val (.ref fb1), .val (.int (3 : Int32)), .val (.int (0 : Int32)), .unset] [])) (fun _ k => XS.istoreN X1.here hx rfl (hb hby d7_8) rfl (l' := #[.val (.ref a_BACK_BW_indicator), .val (.ref fb1), .val (.int (3 : Int32)), .val (.int (0 : Int32)), .unset]) rfl k) ?_
  refine Goes.step (B := T1.setTop (mkF m 10 #[.val (.ref a_BACK_BW_indicator), .val (.ref fb1), .val (.int (3 : Int32)), .val (.int (0 : Int32)), .unset] [(.int (0 : Int32))])) (fun _ k => XS.iloadN X1.here hx rfl (hb hby d7_9) rfl k) ?_
  refine Goes.step (B := T1.setTop (mkF m 11 #[.val (.ref a_BACK_BW_indicator), .val (.ref fb1), .val (.int (3 : Int32)), .val (.int (0 : Int32)), .unset] [(.int (3 : Int32)), (.int (0 : Int32))])) (fun _ k => XS.iloadN X1.here hx rfl (hb hby d7_10) rfl k) ?_
  refine Goes.step (B := T1.setTop (mkF m 14 #[.val (.ref a_BACK_BW_indicator), .val (.ref fb1), .val (.int (3 : Int32)), .val (.int (0 : Int32)), .unset] [])) (fun _ k => XS.icmpNo X1.here hx rfl (hb hby d7_11) rfl (tlt (by decide)).2.1 k) ?_
  refine Goes.step (B := T1.setTop (mkF m 15 #[.val (.ref a_BACK_BW_indicator), .val (.ref fb1), .val (.int (3 : Int32)), .val (.int (0 : Int32)), .unset] [(.ref fb1)])) (fun _ k => XS.aloadN X1.here hx rfl (hb hby d7_14) rfl rfl k) ?_
  refine Goes.step (B := T1.setTop (mkF m 16 #[.val (.ref a_BACK_BW_indicator), .val (.ref fb1), .val (.int (3 : Int32)), .val (.int (0 : Int32)), .unset] [(.int (0 : Int32)), (.ref fb1)])) (fun _ k => XS.iloadN X1.here hx rfl (hb hby d7_15) rfl k) ?_
  obtain ⟨c13, Ar13, -, Sz13, Nn13, Hs13, -⟩ := id Vb1
  have hin13 : ¬ ((0 : Int32) < 0 ∨ c13.slots.size ≤ ((0 : Int32)).toNatClampNeg) := inb_of Sz13 ⟨by decide, by decide⟩
  refine Goes.step (B := T1.setTop (mkF m 17 #[.val (.ref a_BACK_BW_indicator), .val (.ref fb1), .val (.int (3 : Int32)), .val (.int (0 : Int32)), .unset] [(.ref a_FRONT_BW)])) (X1.aaload hx (j := (0 : Int32)) (v := (.ref a_FRONT_BW)) (by exact Ar13.1) (State.isArrayOf_alike hZ.alike Ar13.2.1) rfl Ar13.2.2 hin13 (Has.at Hs13 hin13 rfl) (g := (mkF m 16 #[.val (.ref a_BACK_BW_indicator), .val (.ref fb1), .val (.int (3 : Int32)), .val (.int (0 : Int32)), .unset] [(.int (0 : Int32)), (.ref fb1)])) rfl rfl (hb hby d7_16)) ?_
  refine Goes.step (B := T1.setTop (mkF m 19 #[.val (.ref a_BACK_BW_indicator), .val (.ref fb1), .val (.int (3 : Int32)), .val (.int (0 : Int32)), .val (.ref a_FRONT_BW)] [])) (fun _ k => XS.astore X1.here hx rfl (hb hby d7_17) rfl rfl (l' := #[.val (.ref a_BACK_BW_indicator), .val (.ref fb1), .val (.int (3 : Int32)), .val (.int (0 : Int32)), .val (.ref a_FRONT_BW)]) rfl k) ?_
  refine Goes.step (B := T1.setTop (mkF m 21 #[.val (.ref a_BACK_BW_indicator), .val (.ref fb1), .val (.int (3 : Int32)), .val (.int (0 : Int32)), .val (.ref a_FRONT_BW)] [(.ref a_FRONT_BW)])) (fun _ k => XS.aload X1.here hx rfl (hb hby d7_19) rfl rfl k) ?_
  have f14 := F_FRONT_BW_indicator.ext O_1.2
  obtain ⟨T15, X15, e15, st15⟩ := getF X1 hx hZ hown (host := "") (Or.inl (hw _ (List.mem_of_getElem? (i := 24) rfl))) Via.refl rfl f14 (g := (mkF m 21 #[.val (.ref a_BACK_BW_indicator), .val (.ref fb1), .val (.int (3 : Int32)), .val (.int (0 : Int32)), .val (.ref a_FRONT_BW)] [(.ref a_FRONT_BW)])) rfl rfl (hb hby d7_21)
  refine Goes.step (B := T15.setTop (mkF m 24 #[.val (.ref a_BACK_BW_indicator), .val (.ref fb1), .val (.int (3 : Int32)), .val (.int (0 : Int32)), .val (.ref a_FRONT_BW)] [(.ref a_FRONT_BW_indicator)])) st15 ?_
  refine Goes.step (B := T15.setTop (mkF m 25 #[.val (.ref a_BACK_BW_indicator), .val (.ref fb1), .val (.int (3 : Int32)), .val (.int (0 : Int32)), .val (.ref a_FRONT_BW)] [(.ref a_BACK_BW_indicator), (.ref a_FRONT_BW_indicator)])) (fun _ k => XS.aloadN X15.here hx rfl (hb hby d7_24) rfl rfl k) ?_
  have f17 := S_COMPACT_STRINGS.ext O_1.2
  have f18 := E_BACK_BW_indicator.ext O_1.2
  have f19 := F_FRONT_BW_indicator_coder.ext O_1.2
  have f20 := F_FRONT_BW_indicator_value.ext O_1.2
  have f21 := V_FRONT_BW_indicator_value.ext O_1.2
  have f22 := F_BACK_BW_indicator_coder.ext O_1.2
  have f23 := F_BACK_BW_indicator_value.ext O_1.2
  have f24 := V_BACK_BW_indicator_value.ext O_1.2
  have f25 := E_FRONT_BW_indicator.ext O_1.2
  obtain ⟨cq16, kq16, qa16, qb16, qc16⟩ := isOf hZ e15 f25
  obtain ⟨_, _, ⟨T16, L16, k16, n16⟩, -, X16, ⟨Lc16, hQ16, l16, y16, z16⟩, st16⟩ := X15.virtualBack hx (y := (⟨"java/lang/String", "equals", "(Ljava/lang/Object;)Z"⟩ : MethodName)) (z := (⟨"java/lang/String", "equals", "(Ljava/lang/Object;)Z"⟩ : MethodName)) hown (mvT hZ (hw _ (List.mem_of_getElem? (i := 66) rfl))) (mvT hZ (hw _ (List.mem_of_getElem? (i := 40) rfl))) (notFace_of_selects (args := #[]) (mvT hZ (hw _ (List.mem_of_getElem? (i := 42) rfl)))) (mvT hZ (hw _ (List.mem_of_getElem? (i := 42) rfl))) (mvT hZ (hw _ (List.mem_of_getElem? (i := 41) rfl))) (by decide) (backOf (W := 0) (rmEd01 l Z a0 hw [] a_FRONT_BW_indicator a_BACK_BW_indicator a_FRONT_BW_indicator_value a_BACK_BW_indicator_value k_FRONT_BW_indicator_value k_BACK_BW_indicator_value cs T1.heap n0 O_1 f17 hcs f18 f19 f20 f21 f22 f23 f24) hZ (hw _ (List.mem_of_getElem? (i := 43) rfl)) (hw _ (List.mem_of_getElem? (i := 32) rfl)) (by decide) (by decide)) qa16 qc16 (g := (mkF m 25 #[.val (.ref a_BACK_BW_indicator), .val (.ref fb1), .val (.int (3 : Int32)), .val (.int (0 : Int32)), .val (.ref a_FRONT_BW)] [(.ref a_BACK_BW_indicator), (.ref a_FRONT_BW_indicator)])) rfl (by rw [hml]; rfl) (Steps.refl _) (argsL := [(.ref a_BACK_BW_indicator)]) (rest := []) (lenOf pd_2 rfl) rfl (by show 2 * 0 + _ ≤ _; exact Nat.le_of_eq rfl) (hb hby d7_25) (fun _ _ => ⟨rfl, e15, (by decide : 1 + 0 ≤ _), (by decide : 3 + 0 ≤ _)⟩)
  dsimp only [Pt.U, Pt.locs, Pt.cells, Pt.slots] at X16 l16 y16 z16 st16 hQ16
  subst l16 y16 z16
  obtain ⟨rfl, Nq16, eh16⟩ := hQ16
  have N16 := Fr.app N1 Nq16
  refine Goes.via (B := T16.setTop (mkF m 28 #[.val (.ref a_BACK_BW_indicator), .val (.ref fb1), .val (.int (3 : Int32)), .val (.int (0 : Int32)), .val (.ref a_FRONT_BW)] [(.int (0 : Int32))])) st16 ?_
  refine Goes.step (B := T16.setTop (mkF m 34 #[.val (.ref a_BACK_BW_indicator), .val (.ref fb1), .val (.int (3 : Int32)), .val (.int (0 : Int32)), .val (.ref a_FRONT_BW)] [])) (fun _ k => XS.ifYes X16.here hx rfl (pc0 := 28) (pc' := 34) rfl (hb hby d7_28) rfl ((if0 _ _).trans (teq (by decide)).1) (by decide) (by decide) k) ?_
  refine Goes.step (B := T16.setTop (mkF m 37 #[.val (.ref a_BACK_BW_indicator), .val (.ref fb1), .val (.int (3 : Int32)), .val (.int (1 : Int32)), .val (.ref a_FRONT_BW)] [])) (fun _ k => XS.iinc X16.here hx rfl (hb hby d7_34) rfl (l' := #[.val (.ref a_BACK_BW_indicator), .val (.ref fb1), .val (.int (3 : Int32)), .val (.int (1 : Int32)), .val (.ref a_FRONT_BW)]) rfl k) ?_
  refine Goes.step (B := T16.setTop (mkF m 9 #[.val (.ref a_BACK_BW_indicator), .val (.ref fb1), .val (.int (3 : Int32)), .val (.int (1 : Int32)), .val (.ref a_FRONT_BW)] [])) (fun _ k => XS.goto X16.here hx rfl (pc0 := 37) (pc' := 9) rfl (hb hby d7_37) (by decide) (by decide) k) ?_
  refine Goes.step (B := T16.setTop (mkF m 10 #[.val (.ref a_BACK_BW_indicator), .val (.ref fb1), .val (.int (3 : Int32)), .val (.int (1 : Int32)), .val (.ref a_FRONT_BW)] [(.int (1 : Int32))])) (fun _ k => XS.iloadN X16.here hx rfl (hb hby d7_9) rfl k) ?_
  refine Goes.step (B := T16.setTop (mkF m 11 #[.val (.ref a_BACK_BW_indicator), .val (.ref fb1), .val (.int (3 : Int32)), .val (.int (1 : Int32)), .val (.ref a_FRONT_BW)] [(.int (3 : Int32)), (.int (1 : Int32))])) (fun _ k => XS.iloadN X16.here hx rfl (hb hby d7_10) rfl k) ?_
  refine Goes.step (B := T16.setTop (mkF m 14 #[.val (.ref a_BACK_BW_indicator), .val (.ref fb1), .val (.int (3 : Int32)), .val (.int (1 : Int32)), .val (.ref a_FRONT_BW)] [])) (fun _ k => XS.icmpNo X16.here hx rfl (hb hby d7_11) rfl (tlt (by decide)).2.1 k) ?_
  refine Goes.step (B := T16.setTop (mkF m 15 #[.val (.ref a_BACK_BW_indicator), .val (.ref fb1), .val (.int (3 : Int32)), .val (.int (1 : Int32)), .val (.ref a_FRONT_BW)] [(.ref fb1)])) (fun _ k => XS.aloadN X16.here hx rfl (hb hby d7_14) rfl rfl k) ?_
  refine Goes.step (B := T16.setTop (mkF m 16 #[.val (.ref a_BACK_BW_indicator), .val (.ref fb1), .val (.int (3 : Int32)), .val (.int (1 : Int32)), .val (.ref a_FRONT_BW)] [(.int (1 : Int32)), (.ref fb1)])) (fun _ k => XS.iloadN X16.here hx rfl (hb hby d7_15) rfl k) ?_
  obtain ⟨c26, Ar26, -, Sz26, Nn26, Hs26, -⟩ := id Vb1
  have hin26 : ¬ ((1 : Int32) < 0 ∨ c26.slots.size ≤ ((1 : Int32)).toNatClampNeg) := inb_of Sz26 ⟨by decide, by decide⟩
  refine Goes.step (B := T16.setTop (mkF m 17 #[.val (.ref a_BACK_BW_indicator), .val (.ref fb1), .val (.int (3 : Int32)), .val (.int (1 : Int32)), .val (.ref a_FRONT_BW)] [(.ref a_BACK_BW)])) (X16.aaload hx (j := (1 : Int32)) (v := (.ref a_BACK_BW)) (by rw [eh16]; exact Ar26.1) (State.isArrayOf_alike hZ.alike Ar26.2.1) rfl Ar26.2.2 hin26 (Has.at Hs26 hin26 rfl) (g := (mkF m 16 #[.val (.ref a_BACK_BW_indicator), .val (.ref fb1), .val (.int (3 : Int32)), .val (.int (1 : Int32)), .val (.ref a_FRONT_BW)] [(.int (1 : Int32)), (.ref fb1)])) rfl rfl (hb hby d7_16)) ?_
  refine Goes.step (B := T16.setTop (mkF m 19 #[.val (.ref a_BACK_BW_indicator), .val (.ref fb1), .val (.int (3 : Int32)), .val (.int (1 : Int32)), .val (.ref a_BACK_BW)] [])) (fun _ k => XS.astore X16.here hx rfl (hb hby d7_17) rfl rfl (l' := #[.val (.ref a_BACK_BW_indicator), .val (.ref fb1), .val (.int (3 : Int32)), .val (.int (1 : Int32)), .val (.ref a_BACK_BW)]) rfl k) ?_
  refine Goes.step (B := T16.setTop (mkF m 21 #[.val (.ref a_BACK_BW_indicator), .val (.ref fb1), .val (.int (3 : Int32)), .val (.int (1 : Int32)), .val (.ref a_BACK_BW)] [(.ref a_BACK_BW)])) (fun _ k => XS.aload X16.here hx rfl (hb hby d7_19) rfl rfl k) ?_
  have f27 := F_BACK_BW_indicator.ext O_1.2
  obtain ⟨T28, X28, e28, st28⟩ := getF X16 hx hZ hown (host := "") (Or.inl (hw _ (List.mem_of_getElem? (i := 24) rfl))) Via.refl eh16 f27 (g := (mkF m 21 #[.val (.ref a_BACK_BW_indicator), .val (.ref fb1), .val (.int (3 : Int32)), .val (.int (1 : Int32)), .val (.ref a_BACK_BW)] [(.ref a_BACK_BW)])) rfl rfl (hb hby d7_21)
  refine Goes.step (B := T28.setTop (mkF m 24 #[.val (.ref a_BACK_BW_indicator), .val (.ref fb1), .val (.int (3 : Int32)), .val (.int (1 : Int32)), .val (.ref a_BACK_BW)] [(.ref a_BACK_BW_indicator)])) st28 ?_
  refine Goes.step (B := T28.setTop (mkF m 25 #[.val (.ref a_BACK_BW_indicator), .val (.ref fb1), .val (.int (3 : Int32)), .val (.int (1 : Int32)), .val (.ref a_BACK_BW)] [(.ref a_BACK_BW_indicator), (.ref a_BACK_BW_indicator)])) (fun _ k => XS.aloadN X28.here hx rfl (hb hby d7_24) rfl rfl k) ?_
  obtain ⟨cq29, kq29, qa29, qb29, qc29⟩ := isOf hZ e28 f18
  obtain ⟨_, _, ⟨T29, L29, k29, n29⟩, -, X29, ⟨Lc29, hQ29, l29, y29, z29⟩, st29⟩ := X28.virtualBack hx (y := (⟨"java/lang/String", "equals", "(Ljava/lang/Object;)Z"⟩ : MethodName)) (z := (⟨"java/lang/String", "equals", "(Ljava/lang/Object;)Z"⟩ : MethodName)) hown (mvT hZ (hw _ (List.mem_of_getElem? (i := 66) rfl))) (mvT hZ (hw _ (List.mem_of_getElem? (i := 40) rfl))) (notFace_of_selects (args := #[]) (mvT hZ (hw _ (List.mem_of_getElem? (i := 42) rfl)))) (mvT hZ (hw _ (List.mem_of_getElem? (i := 42) rfl))) (mvT hZ (hw _ (List.mem_of_getElem? (i := 41) rfl))) (by decide) (backOf (W := 0) (rmES l Z a0 hw [] a_BACK_BW_indicator T1.heap n0 O_1 ) hZ (hw _ (List.mem_of_getElem? (i := 43) rfl)) (hw _ (List.mem_of_getElem? (i := 32) rfl)) (by decide) (by decide)) qa29 qc29 (g := (mkF m 25 #[.val (.ref a_BACK_BW_indicator), .val (.ref fb1), .val (.int (3 : Int32)), .val (.int (1 : Int32)), .val (.ref a_BACK_BW)] [(.ref a_BACK_BW_indicator), (.ref a_BACK_BW_indicator)])) rfl (by rw [hml]; rfl) (Steps.refl _) (argsL := [(.ref a_BACK_BW_indicator)]) (rest := []) (lenOf pd_2 rfl) rfl (by show 2 * 0 + _ ≤ _; exact Nat.le_of_eq rfl) (hb hby d7_25) (fun _ _ => ⟨rfl, e28, (by decide : 1 + 0 ≤ _), (by decide : 3 + 0 ≤ _)⟩)
  dsimp only [Pt.U, Pt.locs, Pt.cells, Pt.slots] at X29 l29 y29 z29 st29 hQ29
  subst l29 y29 z29
  obtain ⟨rfl, Nq29, eh29⟩ := hQ29
  have N29 := Fr.app N16 Nq29
  refine Goes.via (B := T29.setTop (mkF m 28 #[.val (.ref a_BACK_BW_indicator), .val (.ref fb1), .val (.int (3 : Int32)), .val (.int (1 : Int32)), .val (.ref a_BACK_BW)] [(.int (1 : Int32))])) st29 ?_
  refine Goes.step (B := T29.setTop (mkF m 31 #[.val (.ref a_BACK_BW_indicator), .val (.ref fb1), .val (.int (3 : Int32)), .val (.int (1 : Int32)), .val (.ref a_BACK_BW)] [])) (fun _ k => XS.ifNo X29.here hx rfl (hb hby d7_28) rfl ((if0 _ _).trans (feq (by decide)).1) k) ?_
  refine Goes.step (B := T29.setTop (mkF m 33 #[.val (.ref a_BACK_BW_indicator), .val (.ref fb1), .val (.int (3 : Int32)), .val (.int (1 : Int32)), .val (.ref a_BACK_BW)] [(.ref a_BACK_BW)])) (fun _ k => XS.aload X29.here hx rfl (hb hby d7_31) rfl rfl k) ?_
  exact Goes.retA X29 hx eh29 Bd.returns rfl rfl hlk (hb hby d7_33) (by decide) (by decide) (⟨rfl, N29, K_1⟩)
theorem ef_rmOf2 (m : MethodId) (x0 : Addr) : entryFrame m #[(.ref x0)] 5 = mkF m 0 #[.val (.ref x0), .unset, .unset, .unset, .unset] [] := by first | (simp [entryFrame, mkF, argsToLocals, Value.category]; done) | rfl
def QOf2 (Z : State) (a__VALUES : Addr) (a_FRONT_BW : Addr) (a_BACK_BW : Addr) (a_FRONT_GREY : Addr) (a_FRONT_BW_indicator : Addr) (a_BACK_BW_indicator : Addr) (a_FRONT_GREY_indicator : Addr) (a_FRONT_BW_indicator_value : Addr) (a_BACK_BW_indicator_value : Addr) (a_FRONT_GREY_indicator_value : Addr) (k__VALUES : ClassId) (k_FRONT_BW_indicator_value : ClassId) (k_BACK_BW_indicator_value : ClassId) (k_FRONT_GREY_indicator_value : ClassId) (cs : Int32) (h0 : Heap) (n0 : Nat) (v : Option Value) (h : Heap) (L : List Loc) : Prop := v = some (.ref a_FRONT_GREY) ∧ Fr n0 L ∧ Keep h0 h []
set_option maxRecDepth 65536 in
set_option maxHeartbeats 40000000 in
theorem rmOf2 (l : Launch) (Z : State) (a0 : Array Value) (hw : ∀ d ∈ tables_1, d.before a0 Z = true) (ws : List Jvm.Cond) (a__VALUES : Addr) (a_FRONT_BW : Addr) (a_BACK_BW : Addr) (a_FRONT_GREY : Addr) (a_FRONT_BW_indicator : Addr) (a_BACK_BW_indicator : Addr) (a_FRONT_GREY_indicator : Addr) (a_FRONT_BW_indicator_value : Addr) (a_BACK_BW_indicator_value : Addr) (a_FRONT_GREY_indicator_value : Addr) (k__VALUES : ClassId) (k_FRONT_BW_indicator_value : ClassId) (k_BACK_BW_indicator_value : ClassId) (k_FRONT_GREY_indicator_value : ClassId) (cs : Int32) (h0 : Heap) (n0 : Nat) (O0 : Old Z n0 h0) (FS : OwnSt Z a__VALUES a_FRONT_BW a_BACK_BW a_FRONT_GREY a_FRONT_BW_indicator a_BACK_BW_indicator a_FRONT_GREY_indicator a_FRONT_BW_indicator_value a_BACK_BW_indicator_value a_FRONT_GREY_indicator_value k__VALUES k_FRONT_BW_indicator_value k_BACK_BW_indicator_value k_FRONT_GREY_indicator_value cs) :
    MetFree l (⟨"com/example/gridclear/gridclear/image/ImageView$Side", "of", "(Ljava/lang/String;)Lcom/example/gridclear/gridclear/image/ImageView$Side;"⟩ : MethodName) (head1 (Jvm.Cond.code (⟨"com/example/gridclear/gridclear/image/ImageView$Side", "of", "(Ljava/lang/String;)Lcom/example/gridclear/gridclear/image/ImageView$Side;"⟩ : MethodName) prog_73_method_7_code 5 (some (.object "com/example/gridclear/gridclear/image/ImageView$Side")) :: ws) ({ frames := 2, cells := 1, slots := 3, locals := 28 } : Room)) (fun a U => a = #[(.ref a_FRONT_GREY_indicator)] ∧ Z.Warmed39 U.vm ∧ U.heap = h0) (fun _ _ _ _ _ => True) (fun _ U o U' => ∃ v L, o = .returned v ∧ QOf2 Z a__VALUES a_FRONT_BW a_BACK_BW a_FRONT_GREY a_FRONT_BW_indicator a_BACK_BW_indicator a_FRONT_GREY_indicator a_FRONT_BW_indicator_value a_BACK_BW_indicator_value a_FRONT_GREY_indicator_value k__VALUES k_FRONT_BW_indicator_value k_BACK_BW_indicator_value k_FRONT_GREY_indicator_value cs h0 n0 v U'.heap L ∧ FrameEnd U o U' L ({ frames := 2, cells := 1, slots := 3, locals := 28 } : Room).cells ({ frames := 2, cells := 1, slots := 3, locals := 28 } : Room).slots) := by
  refine MetFree.of_bodySF (plainFor_of_name pn_ImageView_Side) hisR ?_
  intro p e s m args below meth c s₁ Bd hml0 hP hK
  obtain ⟨rfl, hZ, hh⟩ := hP
  have hx := Bd.exec
  have hby := Bd.bytes
  have hlk : meth.locks = false := BodyLoose.notSynchronized Bd
  have hml : c.maxLocals = 5 := hml0
  have hown : s.vm.findClass "com/example/gridclear/gridclear/image/ImageView$Side" = some m.cls := findClass_of_methodNamed Bd.named
  have hnm := (name_of_methodNamed Bd.named Bd.method).1
  have X0 : Stand p l e ({ frames := 2, cells := 1, slots := 3, locals := 28 } : Room) s m #[(.ref a_FRONT_GREY_indicator)] below meth c s₁ [] 0 0 := Stand.of_body Bd
  have e0 : s₁.heap = h0 := by rw [← hh, Bd.state]; rfl
  have N0 := Fr.nil n0
  show Goes p e below s (QOf2 Z a__VALUES a_FRONT_BW a_BACK_BW a_FRONT_GREY a_FRONT_BW_indicator a_BACK_BW_indicator a_FRONT_GREY_indicator a_FRONT_BW_indicator_value a_BACK_BW_indicator_value a_FRONT_GREY_indicator_value k__VALUES k_FRONT_BW_indicator_value k_BACK_BW_indicator_value k_FRONT_GREY_indicator_value cs h0 n0) ({ frames := 2, cells := 1, slots := 3, locals := 28 } : Room).cells ({ frames := 2, cells := 1, slots := 3, locals := 28 } : Room).slots (s₁.setTop (entryFrame m #[(.ref a_FRONT_GREY_indicator)] 5))
  refine Goes.enter (g' := (mkF m 0 #[.val (.ref a_FRONT_GREY_indicator), .unset, .unset, .unset, .unset] [])) (ef_rmOf2 m a_FRONT_GREY_indicator) ?_
  have FS0 := FS
  obtain ⟨S__VALUES, E__VALUES, S_FRONT_BW, E_FRONT_BW, S_BACK_BW, E_BACK_BW, S_FRONT_GREY, E_FRONT_GREY, F_FRONT_BW_indicator, E_FRONT_BW_indicator, F_BACK_BW_indicator, E_BACK_BW_indicator, F_FRONT_GREY_indicator, E_FRONT_GREY_indicator, F_FRONT_BW_indicator_coder, F_FRONT_BW_indicator_value, F_BACK_BW_indicator_coder, F_BACK_BW_indicator_value, F_FRONT_GREY_indicator_coder, F_FRONT_GREY_indicator_value, ne_a_FRONT_BW_indicator_a_FRONT_GREY_indicator, ne_a_BACK_BW_indicator_a_FRONT_GREY_indicator, ne_a_BACK_BW_indicator_a_FRONT_BW_indicator, V__VALUES, V_FRONT_BW_indicator_value, V_BACK_BW_indicator_value, V_FRONT_GREY_indicator_value, S_COMPACT_STRINGS, hcs⟩ := FS0
  have f2 := E__VALUES.ext O0.2
  have lt_a__VALUES_1 := f2.lt
  have f3 := E_FRONT_BW.ext O0.2
  have lt_a_FRONT_BW_1 := f3.lt
  have f4 := E_BACK_BW.ext O0.2
  have lt_a_BACK_BW_1 := f4.lt
  have f5 := E_FRONT_GREY.ext O0.2
  have lt_a_FRONT_GREY_1 := f5.lt
  have f6 := E_FRONT_BW_indicator.ext O0.2
  have lt_a_FRONT_BW_indicator_1 := f6.lt
  have f7 := E_BACK_BW_indicator.ext O0.2
  have lt_a_BACK_BW_indicator_1 := f7.lt
  have f8 := E_FRONT_GREY_indicator.ext O0.2
  have lt_a_FRONT_GREY_indicator_1 := f8.lt
  have f9 := V_FRONT_BW_indicator_value.ext O0.2
  have lt_a_FRONT_BW_indicator_value_1 := f9.lt
  have f10 := V_BACK_BW_indicator_value.ext O0.2
  have lt_a_BACK_BW_indicator_value_1 := f10.lt
  have f11 := V_FRONT_GREY_indicator_value.ext O0.2
  have lt_a_FRONT_GREY_indicator_value_1 := f11.lt
  obtain ⟨_, _, ⟨T1, L1, k1, n1⟩, -, X1, ⟨Lc1, hQ1, l1, y1, z1⟩, st1⟩ := Jvm.LawKit.callS X0 hx (y := (⟨"com/example/gridclear/gridclear/image/ImageView$Side", "values", "()[Lcom/example/gridclear/gridclear/image/ImageView$Side;"⟩ : MethodName)) hown (mvT hZ (hw _ (List.mem_of_getElem? (i := 4) rfl))) (mvT hZ (hw _ (List.mem_of_getElem? (i := 5) rfl))) (mvT hZ (hw _ (List.mem_of_getElem? (i := 2) rfl))) (mvT hZ (hw _ (List.mem_of_getElem? (i := 6) rfl))) (by decide) (backOf (W := 0) (rm2 l Z a0 hw [] a__VALUES a_FRONT_BW a_BACK_BW a_FRONT_GREY a_FRONT_BW_indicator a_BACK_BW_indicator a_FRONT_GREY_indicator a_FRONT_BW_indicator_value a_BACK_BW_indicator_value a_FRONT_GREY_indicator_value k__VALUES k_FRONT_BW_indicator_value k_BACK_BW_indicator_value k_FRONT_GREY_indicator_value cs h0 n0 O0 FS) hZ (hw _ (List.mem_of_getElem? (i := 6) rfl)) (hw _ (List.mem_of_getElem? (i := 2) rfl)) (by decide) (by decide)) (g := (mkF m 0 #[.val (.ref a_FRONT_GREY_indicator), .unset, .unset, .unset, .unset] [])) rfl (by rw [hml]; rfl) (argsL := []) (rest := []) (lenOf pd_0 rfl) rfl (by show 2 * 0 + _ ≤ _; exact Nat.le_of_eq rfl) (hb hby d7_0) (fun _ _ => ⟨rfl, e0, (by decide : 0 + 1 ≤ _), (by decide : 0 + 3 ≤ _)⟩)
  dsimp only [Pt.U, Pt.locs, Pt.cells, Pt.slots] at X1 l1 y1 z1 st1 hQ1
  subst l1 y1 z1
  obtain ⟨fb1, fk1, rfl, Nq1, Kp1, gb1, sb1, Vb1, Eb1⟩ := hQ1
  have ne_a__VALUES_fb1 : a__VALUES ≠ fb1 := Nat.ne_of_lt (Nat.lt_of_lt_of_le lt_a__VALUES_1 sb1)
  have ne_a_FRONT_BW_fb1 : a_FRONT_BW ≠ fb1 := Nat.ne_of_lt (Nat.lt_of_lt_of_le lt_a_FRONT_BW_1 sb1)
  have ne_a_BACK_BW_fb1 : a_BACK_BW ≠ fb1 := Nat.ne_of_lt (Nat.lt_of_lt_of_le lt_a_BACK_BW_1 sb1)
  have ne_a_FRONT_GREY_fb1 : a_FRONT_GREY ≠ fb1 := Nat.ne_of_lt (Nat.lt_of_lt_of_le lt_a_FRONT_GREY_1 sb1)
  have ne_a_FRONT_BW_indicator_fb1 : a_FRONT_BW_indicator ≠ fb1 := Nat.ne_of_lt (Nat.lt_of_lt_of_le lt_a_FRONT_BW_indicator_1 sb1)
  have ne_a_BACK_BW_indicator_fb1 : a_BACK_BW_indicator ≠ fb1 := Nat.ne_of_lt (Nat.lt_of_lt_of_le lt_a_BACK_BW_indicator_1 sb1)
  have ne_a_FRONT_GREY_indicator_fb1 : a_FRONT_GREY_indicator ≠ fb1 := Nat.ne_of_lt (Nat.lt_of_lt_of_le lt_a_FRONT_GREY_indicator_1 sb1)
  have ne_a_FRONT_BW_indicator_value_fb1 : a_FRONT_BW_indicator_value ≠ fb1 := Nat.ne_of_lt (Nat.lt_of_lt_of_le lt_a_FRONT_BW_indicator_value_1 sb1)
  have ne_a_BACK_BW_indicator_value_fb1 : a_BACK_BW_indicator_value ≠ fb1 := Nat.ne_of_lt (Nat.lt_of_lt_of_le lt_a_BACK_BW_indicator_value_1 sb1)
  have ne_a_FRONT_GREY_indicator_value_fb1 : a_FRONT_GREY_indicator_value ≠ fb1 := Nat.ne_of_lt (Nat.lt_of_lt_of_le lt_a_FRONT_GREY_indicator_value_1 sb1)
  have O_1 := O0.keep Kp1 all0
  have K_1 := (Keep.refl h0 []).trans Kp1 all0
  have N1 := Fr.app N0 Nq1
  refine Goes.step (B := T1.setTop (mkF m 3 #[.val (.ref a_FRONT_GREY_indicator), .unset, .unset, .unset, .unset] [(.ref fb1)])) st1 ?_
  refine Goes.step (B := T1.setTop (mkF m 4 #[.val (.ref a_FRONT_GREY_indicator), .val (.ref fb1), .unset, .unset, .unset] [])) (fun _ k => XS.astoreN X1.here hx rfl (hb hby d7_3) rfl rfl (l' := #[.val (.ref a_FRONT_GREY_indicator), .val (.ref fb1), .unset, .unset, .unset]) rfl k) ?_
  refine Goes.step (B := T1.setTop (mkF m 5 #[.val (.ref a_FRONT_GREY_indicator), .val (.ref fb1), .unset, .unset, .unset] [(.ref fb1)])) (fun _ k => XS.aloadN X1.here hx rfl (hb hby d7_4) rfl rfl k) ?_
  obtain ⟨c12, Ar12, -, Sz12, Nn12, -, -⟩ := id Vb1
  have len12 := X1.arraylength hx (by exact Ar12.1) (State.isArrayOf_alike hZ.alike Ar12.2.1) (g := (mkF m 5 #[.val (.ref a_FRONT_GREY_indicator), .val (.ref fb1), .unset, .unset, .unset] [(.ref fb1)])) rfl rfl (hb hby d7_5)
  rw [len_of Sz12 Nn12] at len12
  refine Goes.step (B := T1.setTop (mkF m 6 #[.val (.ref a_FRONT_GREY_indicator), .val (.ref fb1), .unset, .unset, .unset] [(.int (3 : Int32))])) len12 ?_
  refine Goes.step (B := T1.setTop (mkF m 7 #[.val (.ref a_FRONT_GREY_indicator), .val (.ref fb1), .val (.int (3 : Int32)), .unset, .unset] [])) (fun _ k => XS.istoreN X1.here hx rfl (hb hby d7_6) rfl (l' := #[.val (.ref a_FRONT_GREY_indicator), .val (.ref fb1), .val (.int (3 : Int32)), .unset, .unset]) rfl k) ?_
  refine Goes.step (B := T1.setTop (mkF m 8 #[.val (.ref a_FRONT_GREY_indicator), .val (.ref fb1), .val (.int (3 : Int32)), .unset, .unset] [(.int (0 : Int32))])) (fun _ k => XS.iconst X1.here hx rfl (hb hby d7_7) k) ?_
  refine Goes.step (B := T1.setTop (mkF m 9 #[.val (.ref a_FRONT_GREY_indicator), .val (.ref fb1), .val (.int (3 : Int32)), .val (.int (0 : Int32)), .unset] [])) (fun _ k => XS.istoreN X1.here hx rfl (hb hby d7_8) rfl (l' := #[.val (.ref a_FRONT_GREY_indicator), .val (.ref fb1), .val (.int (3 : Int32)), .val (.int (0 : Int32)), .unset]) rfl k) ?_
  refine Goes.step (B := T1.setTop (mkF m 10 #[.val (.ref a_FRONT_GREY_indicator), .val (.ref fb1), .val (.int (3 : Int32)), .val (.int (0 : Int32)), .unset] [(.int (0 : Int32))])) (fun _ k => XS.iloadN X1.here hx rfl (hb hby d7_9) rfl k) ?_
  refine Goes.step (B := T1.setTop (mkF m 11 #[.val (.ref a_FRONT_GREY_indicator), .val (.ref fb1), .val (.int (3 : Int32)), .val (.int (0 : Int32)), .unset] [(.int (3 : Int32)), (.int (0 : Int32))])) (fun _ k => XS.iloadN X1.here hx rfl (hb hby d7_10) rfl k) ?_
  refine Goes.step (B := T1.setTop (mkF m 14 #[.val (.ref a_FRONT_GREY_indicator), .val (.ref fb1), .val (.int (3 : Int32)), .val (.int (0 : Int32)), .unset] [])) (fun _ k => XS.icmpNo X1.here hx rfl (hb hby d7_11) rfl (tlt (by decide)).2.1 k) ?_
  refine Goes.step (B := T1.setTop (mkF m 15 #[.val (.ref a_FRONT_GREY_indicator), .val (.ref fb1), .val (.int (3 : Int32)), .val (.int (0 : Int32)), .unset] [(.ref fb1)])) (fun _ k => XS.aloadN X1.here hx rfl (hb hby d7_14) rfl rfl k) ?_
  refine Goes.step (B := T1.setTop (mkF m 16 #[.val (.ref a_FRONT_GREY_indicator), .val (.ref fb1), .val (.int (3 : Int32)), .val (.int (0 : Int32)), .unset] [(.int (0 : Int32)), (.ref fb1)])) (fun _ k => XS.iloadN X1.here hx rfl (hb hby d7_15) rfl k) ?_
  obtain ⟨c13, Ar13, -, Sz13, Nn13, Hs13, -⟩ := id Vb1
  have hin13 : ¬ ((0 : Int32) < 0 ∨ c13.slots.size ≤ ((0 : Int32)).toNatClampNeg) := inb_of Sz13 ⟨by decide, by decide⟩
  refine Goes.step (B := T1.setTop (mkF m 17 #[.val (.ref a_FRONT_GREY_indicator), .val (.ref fb1), .val (.int (3 : Int32)), .val (.int (0 : Int32)), .unset] [(.ref a_FRONT_BW)])) (X1.aaload hx (j := (0 : Int32)) (v := (.ref a_FRONT_BW)) (by exact Ar13.1) (State.isArrayOf_alike hZ.alike Ar13.2.1) rfl Ar13.2.2 hin13 (Has.at Hs13 hin13 rfl) (g := (mkF m 16 #[.val (.ref a_FRONT_GREY_indicator), .val (.ref fb1), .val (.int (3 : Int32)), .val (.int (0 : Int32)), .unset] [(.int (0 : Int32)), (.ref fb1)])) rfl rfl (hb hby d7_16)) ?_
  refine Goes.step (B := T1.setTop (mkF m 19 #[.val (.ref a_FRONT_GREY_indicator), .val (.ref fb1), .val (.int (3 : Int32)), .val (.int (0 : Int32)), .val (.ref a_FRONT_BW)] [])) (fun _ k => XS.astore X1.here hx rfl (hb hby d7_17) rfl rfl (l' := #[.val (.ref a_FRONT_GREY_indicator), .val (.ref fb1), .val (.int (3 : Int32)), .val (.int (0 : Int32)), .val (.ref a_FRONT_BW)]) rfl k) ?_
  refine Goes.step (B := T1.setTop (mkF m 21 #[.val (.ref a_FRONT_GREY_indicator), .val (.ref fb1), .val (.int (3 : Int32)), .val (.int (0 : Int32)), .val (.ref a_FRONT_BW)] [(.ref a_FRONT_BW)])) (fun _ k => XS.aload X1.here hx rfl (hb hby d7_19) rfl rfl k) ?_
  have f14 := F_FRONT_BW_indicator.ext O_1.2
  obtain ⟨T15, X15, e15, st15⟩ := getF X1 hx hZ hown (host := "") (Or.inl (hw _ (List.mem_of_getElem? (i := 24) rfl))) Via.refl rfl f14 (g := (mkF m 21 #[.val (.ref a_FRONT_GREY_indicator), .val (.ref fb1), .val (.int (3 : Int32)), .val (.int (0 : Int32)), .val (.ref a_FRONT_BW)] [(.ref a_FRONT_BW)])) rfl rfl (hb hby d7_21)
  refine Goes.step (B := T15.setTop (mkF m 24 #[.val (.ref a_FRONT_GREY_indicator), .val (.ref fb1), .val (.int (3 : Int32)), .val (.int (0 : Int32)), .val (.ref a_FRONT_BW)] [(.ref a_FRONT_BW_indicator)])) st15 ?_
  refine Goes.step (B := T15.setTop (mkF m 25 #[.val (.ref a_FRONT_GREY_indicator), .val (.ref fb1), .val (.int (3 : Int32)), .val (.int (0 : Int32)), .val (.ref a_FRONT_BW)] [(.ref a_FRONT_GREY_indicator), (.ref a_FRONT_BW_indicator)])) (fun _ k => XS.aloadN X15.here hx rfl (hb hby d7_24) rfl rfl k) ?_
  have f17 := S_COMPACT_STRINGS.ext O_1.2
  have f18 := E_FRONT_GREY_indicator.ext O_1.2
  have f19 := F_FRONT_BW_indicator_coder.ext O_1.2
  have f20 := F_FRONT_BW_indicator_value.ext O_1.2
  have f21 := V_FRONT_BW_indicator_value.ext O_1.2
  have f22 := F_FRONT_GREY_indicator_coder.ext O_1.2
  have f23 := F_FRONT_GREY_indicator_value.ext O_1.2
  have f24 := V_FRONT_GREY_indicator_value.ext O_1.2
  have f25 := E_FRONT_BW_indicator.ext O_1.2
  obtain ⟨cq16, kq16, qa16, qb16, qc16⟩ := isOf hZ e15 f25
  obtain ⟨_, _, ⟨T16, L16, k16, n16⟩, -, X16, ⟨Lc16, hQ16, l16, y16, z16⟩, st16⟩ := X15.virtualBack hx (y := (⟨"java/lang/String", "equals", "(Ljava/lang/Object;)Z"⟩ : MethodName)) (z := (⟨"java/lang/String", "equals", "(Ljava/lang/Object;)Z"⟩ : MethodName)) hown (mvT hZ (hw _ (List.mem_of_getElem? (i := 66) rfl))) (mvT hZ (hw _ (List.mem_of_getElem? (i := 40) rfl))) (notFace_of_selects (args := #[]) (mvT hZ (hw _ (List.mem_of_getElem? (i := 42) rfl)))) (mvT hZ (hw _ (List.mem_of_getElem? (i := 42) rfl))) (mvT hZ (hw _ (List.mem_of_getElem? (i := 41) rfl))) (by decide) (backOf (W := 0) (rmEd02 l Z a0 hw [] a_FRONT_BW_indicator a_FRONT_GREY_indicator a_FRONT_BW_indicator_value a_FRONT_GREY_indicator_value k_FRONT_BW_indicator_value k_FRONT_GREY_indicator_value cs T1.heap n0 O_1 f17 hcs f18 f19 f20 f21 f22 f23 f24) hZ (hw _ (List.mem_of_getElem? (i := 43) rfl)) (hw _ (List.mem_of_getElem? (i := 32) rfl)) (by decide) (by decide)) qa16 qc16 (g := (mkF m 25 #[.val (.ref a_FRONT_GREY_indicator), .val (.ref fb1), .val (.int (3 : Int32)), .val (.int (0 : Int32)), .val (.ref a_FRONT_BW)] [(.ref a_FRONT_GREY_indicator), (.ref a_FRONT_BW_indicator)])) rfl (by rw [hml]; rfl) (Steps.refl _) (argsL := [(.ref a_FRONT_GREY_indicator)]) (rest := []) (lenOf pd_2 rfl) rfl (by show 2 * 0 + _ ≤ _; exact Nat.le_of_eq rfl) (hb hby d7_25) (fun _ _ => ⟨rfl, e15, (by decide : 1 + 0 ≤ _), (by decide : 3 + 0 ≤ _)⟩)
  dsimp only [Pt.U, Pt.locs, Pt.cells, Pt.slots] at X16 l16 y16 z16 st16 hQ16
  subst l16 y16 z16
  obtain ⟨rfl, Nq16, eh16⟩ := hQ16
  have N16 := Fr.app N1 Nq16
  refine Goes.via (B := T16.setTop (mkF m 28 #[.val (.ref a_FRONT_GREY_indicator), .val (.ref fb1), .val (.int (3 : Int32)), .val (.int (0 : Int32)), .val (.ref a_FRONT_BW)] [(.int (0 : Int32))])) st16 ?_
  refine Goes.step (B := T16.setTop (mkF m 34 #[.val (.ref a_FRONT_GREY_indicator), .val (.ref fb1), .val (.int (3 : Int32)), .val (.int (0 : Int32)), .val (.ref a_FRONT_BW)] [])) (fun _ k => XS.ifYes X16.here hx rfl (pc0 := 28) (pc' := 34) rfl (hb hby d7_28) rfl ((if0 _ _).trans (teq (by decide)).1) (by decide) (by decide) k) ?_
  refine Goes.step (B := T16.setTop (mkF m 37 #[.val (.ref a_FRONT_GREY_indicator), .val (.ref fb1), .val (.int (3 : Int32)), .val (.int (1 : Int32)), .val (.ref a_FRONT_BW)] [])) (fun _ k => XS.iinc X16.here hx rfl (hb hby d7_34) rfl (l' := #[.val (.ref a_FRONT_GREY_indicator), .val (.ref fb1), .val (.int (3 : Int32)), .val (.int (1 : Int32)), .val (.ref a_FRONT_BW)]) rfl k) ?_
  refine Goes.step (B := T16.setTop (mkF m 9 #[.val (.ref a_FRONT_GREY_indicator), .val (.ref fb1), .val (.int (3 : Int32)), .val (.int (1 : Int32)), .val (.ref a_FRONT_BW)] [])) (fun _ k => XS.goto X16.here hx rfl (pc0 := 37) (pc' := 9) rfl (hb hby d7_37) (by decide) (by decide) k) ?_
  refine Goes.step (B := T16.setTop (mkF m 10 #[.val (.ref a_FRONT_GREY_indicator), .val (.ref fb1), .val (.int (3 : Int32)), .val (.int (1 : Int32)), .val (.ref a_FRONT_BW)] [(.int (1 : Int32))])) (fun _ k => XS.iloadN X16.here hx rfl (hb hby d7_9) rfl k) ?_
  refine Goes.step (B := T16.setTop (mkF m 11 #[.val (.ref a_FRONT_GREY_indicator), .val (.ref fb1), .val (.int (3 : Int32)), .val (.int (1 : Int32)), .val (.ref a_FRONT_BW)] [(.int (3 : Int32)), (.int (1 : Int32))])) (fun _ k => XS.iloadN X16.here hx rfl (hb hby d7_10) rfl k) ?_
  refine Goes.step (B := T16.setTop (mkF m 14 #[.val (.ref a_FRONT_GREY_indicator), .val (.ref fb1), .val (.int (3 : Int32)), .val (.int (1 : Int32)), .val (.ref a_FRONT_BW)] [])) (fun _ k => XS.icmpNo X16.here hx rfl (hb hby d7_11) rfl (tlt (by decide)).2.1 k) ?_
  refine Goes.step (B := T16.setTop (mkF m 15 #[.val (.ref a_FRONT_GREY_indicator), .val (.ref fb1), .val (.int (3 : Int32)), .val (.int (1 : Int32)), .val (.ref a_FRONT_BW)] [(.ref fb1)])) (fun _ k => XS.aloadN X16.here hx rfl (hb hby d7_14) rfl rfl k) ?_
  refine Goes.step (B := T16.setTop (mkF m 16 #[.val (.ref a_FRONT_GREY_indicator), .val (.ref fb1), .val (.int (3 : Int32)), .val (.int (1 : Int32)), .val (.ref a_FRONT_BW)] [(.int (1 : Int32)), (.ref fb1)])) (fun _ k => XS.iloadN X16.here hx rfl (hb hby d7_15) rfl k) ?_
  obtain ⟨c26, Ar26, -, Sz26, Nn26, Hs26, -⟩ := id Vb1
  have hin26 : ¬ ((1 : Int32) < 0 ∨ c26.slots.size ≤ ((1 : Int32)).toNatClampNeg) := inb_of Sz26 ⟨by decide, by decide⟩
  refine Goes.step (B := T16.setTop (mkF m 17 #[.val (.ref a_FRONT_GREY_indicator), .val (.ref fb1), .val (.int (3 : Int32)), .val (.int (1 : Int32)), .val (.ref a_FRONT_BW)] [(.ref a_BACK_BW)])) (X16.aaload hx (j := (1 : Int32)) (v := (.ref a_BACK_BW)) (by rw [eh16]; exact Ar26.1) (State.isArrayOf_alike hZ.alike Ar26.2.1) rfl Ar26.2.2 hin26 (Has.at Hs26 hin26 rfl) (g := (mkF m 16 #[.val (.ref a_FRONT_GREY_indicator), .val (.ref fb1), .val (.int (3 : Int32)), .val (.int (1 : Int32)), .val (.ref a_FRONT_BW)] [(.int (1 : Int32)), (.ref fb1)])) rfl rfl (hb hby d7_16)) ?_
  refine Goes.step (B := T16.setTop (mkF m 19 #[.val (.ref a_FRONT_GREY_indicator), .val (.ref fb1), .val (.int (3 : Int32)), .val (.int (1 : Int32)), .val (.ref a_BACK_BW)] [])) (fun _ k => XS.astore X16.here hx rfl (hb hby d7_17) rfl rfl (l' := #[.val (.ref a_FRONT_GREY_indicator), .val (.ref fb1), .val (.int (3 : Int32)), .val (.int (1 : Int32)), .val (.ref a_BACK_BW)]) rfl k) ?_
  refine Goes.step (B := T16.setTop (mkF m 21 #[.val (.ref a_FRONT_GREY_indicator), .val (.ref fb1), .val (.int (3 : Int32)), .val (.int (1 : Int32)), .val (.ref a_BACK_BW)] [(.ref a_BACK_BW)])) (fun _ k => XS.aload X16.here hx rfl (hb hby d7_19) rfl rfl k) ?_
  have f27 := F_BACK_BW_indicator.ext O_1.2
  obtain ⟨T28, X28, e28, st28⟩ := getF X16 hx hZ hown (host := "") (Or.inl (hw _ (List.mem_of_getElem? (i := 24) rfl))) Via.refl eh16 f27 (g := (mkF m 21 #[.val (.ref a_FRONT_GREY_indicator), .val (.ref fb1), .val (.int (3 : Int32)), .val (.int (1 : Int32)), .val (.ref a_BACK_BW)] [(.ref a_BACK_BW)])) rfl rfl (hb hby d7_21)
  refine Goes.step (B := T28.setTop (mkF m 24 #[.val (.ref a_FRONT_GREY_indicator), .val (.ref fb1), .val (.int (3 : Int32)), .val (.int (1 : Int32)), .val (.ref a_BACK_BW)] [(.ref a_BACK_BW_indicator)])) st28 ?_
  refine Goes.step (B := T28.setTop (mkF m 25 #[.val (.ref a_FRONT_GREY_indicator), .val (.ref fb1), .val (.int (3 : Int32)), .val (.int (1 : Int32)), .val (.ref a_BACK_BW)] [(.ref a_FRONT_GREY_indicator), (.ref a_BACK_BW_indicator)])) (fun _ k => XS.aloadN X28.here hx rfl (hb hby d7_24) rfl rfl k) ?_
  have f30 := F_BACK_BW_indicator_coder.ext O_1.2
  have f31 := F_BACK_BW_indicator_value.ext O_1.2
  have f32 := V_BACK_BW_indicator_value.ext O_1.2
  have f33 := E_BACK_BW_indicator.ext O_1.2
  obtain ⟨cq29, kq29, qa29, qb29, qc29⟩ := isOf hZ e28 f33
  obtain ⟨_, _, ⟨T29, L29, k29, n29⟩, -, X29, ⟨Lc29, hQ29, l29, y29, z29⟩, st29⟩ := X28.virtualBack hx (y := (⟨"java/lang/String", "equals", "(Ljava/lang/Object;)Z"⟩ : MethodName)) (z := (⟨"java/lang/String", "equals", "(Ljava/lang/Object;)Z"⟩ : MethodName)) hown (mvT hZ (hw _ (List.mem_of_getElem? (i := 66) rfl))) (mvT hZ (hw _ (List.mem_of_getElem? (i := 40) rfl))) (notFace_of_selects (args := #[]) (mvT hZ (hw _ (List.mem_of_getElem? (i := 42) rfl)))) (mvT hZ (hw _ (List.mem_of_getElem? (i := 42) rfl))) (mvT hZ (hw _ (List.mem_of_getElem? (i := 41) rfl))) (by decide) (backOf (W := 0) (rmEd12 l Z a0 hw [] a_BACK_BW_indicator a_FRONT_GREY_indicator a_BACK_BW_indicator_value a_FRONT_GREY_indicator_value k_BACK_BW_indicator_value k_FRONT_GREY_indicator_value cs T1.heap n0 O_1 f17 hcs f18 f30 f31 f32 f22 f23 f24) hZ (hw _ (List.mem_of_getElem? (i := 43) rfl)) (hw _ (List.mem_of_getElem? (i := 32) rfl)) (by decide) (by decide)) qa29 qc29 (g := (mkF m 25 #[.val (.ref a_FRONT_GREY_indicator), .val (.ref fb1), .val (.int (3 : Int32)), .val (.int (1 : Int32)), .val (.ref a_BACK_BW)] [(.ref a_FRONT_GREY_indicator), (.ref a_BACK_BW_indicator)])) rfl (by rw [hml]; rfl) (Steps.refl _) (argsL := [(.ref a_FRONT_GREY_indicator)]) (rest := []) (lenOf pd_2 rfl) rfl (by show 2 * 0 + _ ≤ _; exact Nat.le_of_eq rfl) (hb hby d7_25) (fun _ _ => ⟨rfl, e28, (by decide : 1 + 0 ≤ _), (by decide : 3 + 0 ≤ _)⟩)
  dsimp only [Pt.U, Pt.locs, Pt.cells, Pt.slots] at X29 l29 y29 z29 st29 hQ29
  subst l29 y29 z29
  obtain ⟨rfl, Nq29, eh29⟩ := hQ29
  have N29 := Fr.app N16 Nq29
  refine Goes.via (B := T29.setTop (mkF m 28 #[.val (.ref a_FRONT_GREY_indicator), .val (.ref fb1), .val (.int (3 : Int32)), .val (.int (1 : Int32)), .val (.ref a_BACK_BW)] [(.int (0 : Int32))])) st29 ?_
  refine Goes.step (B := T29.setTop (mkF m 34 #[.val (.ref a_FRONT_GREY_indicator), .val (.ref fb1), .val (.int (3 : Int32)), .val (.int (1 : Int32)), .val (.ref a_BACK_BW)] [])) (fun _ k => XS.ifYes X29.here hx rfl (pc0 := 28) (pc' := 34) rfl (hb hby d7_28) rfl ((if0 _ _).trans (teq (by decide)).1) (by decide) (by decide) k) ?_
  refine Goes.step (B := T29.setTop (mkF m 37 #[.val (.ref a_FRONT_GREY_indicator), .val (.ref fb1), .val (.int (3 : Int32)), .val (.int (2 : Int32)), .val (.ref a_BACK_BW)] [])) (fun _ k => XS.iinc X29.here hx rfl (hb hby d7_34) rfl (l' := #[.val (.ref a_FRONT_GREY_indicator), .val (.ref fb1), .val (.int (3 : Int32)), .val (.int (2 : Int32)), .val (.ref a_BACK_BW)]) rfl k) ?_
  refine Goes.step (B := T29.setTop (mkF m 9 #[.val (.ref a_FRONT_GREY_indicator), .val (.ref fb1), .val (.int (3 : Int32)), .val (.int (2 : Int32)), .val (.ref a_BACK_BW)] [])) (fun _ k => XS.goto X29.here hx rfl (pc0 := 37) (pc' := 9) rfl (hb hby d7_37) (by decide) (by decide) k) ?_
  refine Goes.step (B := T29.setTop (mkF m 10 #[.val (.ref a_FRONT_GREY_indicator), .val (.ref fb1), .val (.int (3 : Int32)), .val (.int (2 : Int32)), .val (.ref a_BACK_BW)] [(.int (2 : Int32))])) (fun _ k => XS.iloadN X29.here hx rfl (hb hby d7_9) rfl k) ?_
  refine Goes.step (B := T29.setTop (mkF m 11 #[.val (.ref a_FRONT_GREY_indicator), .val (.ref fb1), .val (.int (3 : Int32)), .val (.int (2 : Int32)), .val (.ref a_BACK_BW)] [(.int (3 : Int32)), (.int (2 : Int32))])) (fun _ k => XS.iloadN X29.here hx rfl (hb hby d7_10) rfl k) ?_
  refine Goes.step (B := T29.setTop (mkF m 14 #[.val (.ref a_FRONT_GREY_indicator), .val (.ref fb1), .val (.int (3 : Int32)), .val (.int (2 : Int32)), .val (.ref a_BACK_BW)] [])) (fun _ k => XS.icmpNo X29.here hx rfl (hb hby d7_11) rfl (tlt (by decide)).2.1 k) ?_
  refine Goes.step (B := T29.setTop (mkF m 15 #[.val (.ref a_FRONT_GREY_indicator), .val (.ref fb1), .val (.int (3 : Int32)), .val (.int (2 : Int32)), .val (.ref a_BACK_BW)] [(.ref fb1)])) (fun _ k => XS.aloadN X29.here hx rfl (hb hby d7_14) rfl rfl k) ?_
  refine Goes.step (B := T29.setTop (mkF m 16 #[.val (.ref a_FRONT_GREY_indicator), .val (.ref fb1), .val (.int (3 : Int32)), .val (.int (2 : Int32)), .val (.ref a_BACK_BW)] [(.int (2 : Int32)), (.ref fb1)])) (fun _ k => XS.iloadN X29.here hx rfl (hb hby d7_15) rfl k) ?_
  obtain ⟨c34, Ar34, -, Sz34, Nn34, Hs34, -⟩ := id Vb1
  have hin34 : ¬ ((2 : Int32) < 0 ∨ c34.slots.size ≤ ((2 : Int32)).toNatClampNeg) := inb_of Sz34 ⟨by decide, by decide⟩
  refine Goes.step (B := T29.setTop (mkF m 17 #[.val (.ref a_FRONT_GREY_indicator), .val (.ref fb1), .val (.int (3 : Int32)), .val (.int (2 : Int32)), .val (.ref a_BACK_BW)] [(.ref a_FRONT_GREY)])) (X29.aaload hx (j := (2 : Int32)) (v := (.ref a_FRONT_GREY)) (by rw [eh29]; exact Ar34.1) (State.isArrayOf_alike hZ.alike Ar34.2.1) rfl Ar34.2.2 hin34 (Has.at Hs34 hin34 rfl) (g := (mkF m 16 #[.val (.ref a_FRONT_GREY_indicator), .val (.ref fb1), .val (.int (3 : Int32)), .val (.int (2 : Int32)), .val (.ref a_BACK_BW)] [(.int (2 : Int32)), (.ref fb1)])) rfl rfl (hb hby d7_16)) ?_
  refine Goes.step (B := T29.setTop (mkF m 19 #[.val (.ref a_FRONT_GREY_indicator), .val (.ref fb1), .val (.int (3 : Int32)), .val (.int (2 : Int32)), .val (.ref a_FRONT_GREY)] [])) (fun _ k => XS.astore X29.here hx rfl (hb hby d7_17) rfl rfl (l' := #[.val (.ref a_FRONT_GREY_indicator), .val (.ref fb1), .val (.int (3 : Int32)), .val (.int (2 : Int32)), .val (.ref a_FRONT_GREY)]) rfl k) ?_
  refine Goes.step (B := T29.setTop (mkF m 21 #[.val (.ref a_FRONT_GREY_indicator), .val (.ref fb1), .val (.int (3 : Int32)), .val (.int (2 : Int32)), .val (.ref a_FRONT_GREY)] [(.ref a_FRONT_GREY)])) (fun _ k => XS.aload X29.here hx rfl (hb hby d7_19) rfl rfl k) ?_
  have f35 := F_FRONT_GREY_indicator.ext O_1.2
  obtain ⟨T36, X36, e36, st36⟩ := getF X29 hx hZ hown (host := "") (Or.inl (hw _ (List.mem_of_getElem? (i := 24) rfl))) Via.refl eh29 f35 (g := (mkF m 21 #[.val (.ref a_FRONT_GREY_indicator), .val (.ref fb1), .val (.int (3 : Int32)), .val (.int (2 : Int32)), .val (.ref a_FRONT_GREY)] [(.ref a_FRONT_GREY)])) rfl rfl (hb hby d7_21)
  refine Goes.step (B := T36.setTop (mkF m 24 #[.val (.ref a_FRONT_GREY_indicator), .val (.ref fb1), .val (.int (3 : Int32)), .val (.int (2 : Int32)), .val (.ref a_FRONT_GREY)] [(.ref a_FRONT_GREY_indicator)])) st36 ?_
  refine Goes.step (B := T36.setTop (mkF m 25 #[.val (.ref a_FRONT_GREY_indicator), .val (.ref fb1), .val (.int (3 : Int32)), .val (.int (2 : Int32)), .val (.ref a_FRONT_GREY)] [(.ref a_FRONT_GREY_indicator), (.ref a_FRONT_GREY_indicator)])) (fun _ k => XS.aloadN X36.here hx rfl (hb hby d7_24) rfl rfl k) ?_
  obtain ⟨cq37, kq37, qa37, qb37, qc37⟩ := isOf hZ e36 f18
  obtain ⟨_, _, ⟨T37, L37, k37, n37⟩, -, X37, ⟨Lc37, hQ37, l37, y37, z37⟩, st37⟩ := X36.virtualBack hx (y := (⟨"java/lang/String", "equals", "(Ljava/lang/Object;)Z"⟩ : MethodName)) (z := (⟨"java/lang/String", "equals", "(Ljava/lang/Object;)Z"⟩ : MethodName)) hown (mvT hZ (hw _ (List.mem_of_getElem? (i := 66) rfl))) (mvT hZ (hw _ (List.mem_of_getElem? (i := 40) rfl))) (notFace_of_selects (args := #[]) (mvT hZ (hw _ (List.mem_of_getElem? (i := 42) rfl)))) (mvT hZ (hw _ (List.mem_of_getElem? (i := 42) rfl))) (mvT hZ (hw _ (List.mem_of_getElem? (i := 41) rfl))) (by decide) (backOf (W := 0) (rmES l Z a0 hw [] a_FRONT_GREY_indicator T1.heap n0 O_1 ) hZ (hw _ (List.mem_of_getElem? (i := 43) rfl)) (hw _ (List.mem_of_getElem? (i := 32) rfl)) (by decide) (by decide)) qa37 qc37 (g := (mkF m 25 #[.val (.ref a_FRONT_GREY_indicator), .val (.ref fb1), .val (.int (3 : Int32)), .val (.int (2 : Int32)), .val (.ref a_FRONT_GREY)] [(.ref a_FRONT_GREY_indicator), (.ref a_FRONT_GREY_indicator)])) rfl (by rw [hml]; rfl) (Steps.refl _) (argsL := [(.ref a_FRONT_GREY_indicator)]) (rest := []) (lenOf pd_2 rfl) rfl (by show 2 * 0 + _ ≤ _; exact Nat.le_of_eq rfl) (hb hby d7_25) (fun _ _ => ⟨rfl, e36, (by decide : 1 + 0 ≤ _), (by decide : 3 + 0 ≤ _)⟩)
  dsimp only [Pt.U, Pt.locs, Pt.cells, Pt.slots] at X37 l37 y37 z37 st37 hQ37
  subst l37 y37 z37
  obtain ⟨rfl, Nq37, eh37⟩ := hQ37
  have N37 := Fr.app N29 Nq37
  refine Goes.via (B := T37.setTop (mkF m 28 #[.val (.ref a_FRONT_GREY_indicator), .val (.ref fb1), .val (.int (3 : Int32)), .val (.int (2 : Int32)), .val (.ref a_FRONT_GREY)] [(.int (1 : Int32))])) st37 ?_
  refine Goes.step (B := T37.setTop (mkF m 31 #[.val (.ref a_FRONT_GREY_indicator), .val (.ref fb1), .val (.int (3 : Int32)), .val (.int (2 : Int32)), .val (.ref a_FRONT_GREY)] [])) (fun _ k => XS.ifNo X37.here hx rfl (hb hby d7_28) rfl ((if0 _ _).trans (feq (by decide)).1) k) ?_
  refine Goes.step (B := T37.setTop (mkF m 33 #[.val (.ref a_FRONT_GREY_indicator), .val (.ref fb1), .val (.int (3 : Int32)), .val (.int (2 : Int32)), .val (.ref a_FRONT_GREY)] [(.ref a_FRONT_GREY)])) (fun _ k => XS.aload X37.here hx rfl (hb hby d7_31) rfl rfl k) ?_
  exact Goes.retA X37 hx eh37 Bd.returns rfl rfl hlk (hb hby d7_33) (by decide) (by decide) (⟨rfl, N37, K_1⟩)
theorem d3_0 : decode method_2_code 0 = .ok (.aload_n 0, 1) := by decide +kernel
theorem d3_1 : decode method_2_code 1 = .ok (.ifnull 9, 3) := by decide +kernel
theorem d3_4 : decode method_2_code 4 = .ok (.aload_n 0, 1) := by decide +kernel
theorem d3_5 : decode method_2_code 5 = .ok (.arraylength, 1) := by decide +kernel
theorem d3_6 : decode method_2_code 6 = .ok (.iconst 3, 1) := by decide +kernel
theorem d3_7 : decode method_2_code 7 = .ok (.if_icmp .eq 5, 3) := by decide +kernel
theorem d3_12 : decode method_2_code 12 = .ok (.aload_n 0, 1) := by decide +kernel
theorem d3_13 : decode method_2_code 13 = .ok (.iconst 0, 1) := by decide +kernel
theorem d3_14 : decode method_2_code 14 = .ok (.aaload, 1) := by decide +kernel
theorem d3_15 : decode method_2_code 15 = .ok (.ifnull 15, 3) := by decide +kernel
theorem d3_18 : decode method_2_code 18 = .ok (.aload_n 0, 1) := by decide +kernel
theorem d3_19 : decode method_2_code 19 = .ok (.iconst 1, 1) := by decide +kernel
theorem d3_20 : decode method_2_code 20 = .ok (.aaload, 1) := by decide +kernel
theorem d3_21 : decode method_2_code 21 = .ok (.ifnull 9, 3) := by decide +kernel
theorem d3_24 : decode method_2_code 24 = .ok (.aload_n 0, 1) := by decide +kernel
theorem d3_25 : decode method_2_code 25 = .ok (.iconst 2, 1) := by decide +kernel
theorem d3_26 : decode method_2_code 26 = .ok (.aaload, 1) := by decide +kernel
theorem d3_27 : decode method_2_code 27 = .ok (.ifnonnull 5, 3) := by decide +kernel
theorem d3_32 : decode method_2_code 32 = .ok (.ldc 7, 2) := by decide +kernel
theorem own_wS {Z : State} {a0 : Array Value} (hw : ∀ d ∈ tables_1, d.before a0 Z = true) : ∀ a ∈ Bundle.stringAtoms, a.before a0 Z = true := fun d hd => by
  simp only [Bundle.stringAtoms, List.mem_cons, List.not_mem_nil, or_false] at hd
  rcases hd with rfl | rfl | rfl | rfl | rfl | rfl | rfl
  · exact (hw _ (List.mem_of_getElem? (i := 32) rfl))
  · exact (hw _ (List.mem_of_getElem? (i := 33) rfl))
  · exact (hw _ (List.mem_of_getElem? (i := 34) rfl))
  · exact (hw _ (List.mem_of_getElem? (i := 35) rfl))
  · exact (hw _ (List.mem_of_getElem? (i := 36) rfl))
  · exact (hw _ (List.mem_of_getElem? (i := 37) rfl))
  · exact (hw _ (List.mem_of_getElem? (i := 38) rfl))
theorem d3_34 : decode method_2_code 34 = .ok (.aload_n 0, 1) := by decide +kernel
theorem d3_35 : decode method_2_code 35 = .ok (.iconst 0, 1) := by decide +kernel
theorem d3_36 : decode method_2_code 36 = .ok (.aaload, 1) := by decide +kernel
theorem d3_37 : decode method_2_code 37 = .ok (.invokevirtual 9, 3) := by decide +kernel
theorem d3_40 : decode method_2_code 40 = .ok (.ifCond .eq 29, 3) := by decide +kernel
theorem d3_43 : decode method_2_code 43 = .ok (.ldc 15, 2) := by decide +kernel
theorem d3_45 : decode method_2_code 45 = .ok (.aload_n 0, 1) := by decide +kernel
theorem d3_46 : decode method_2_code 46 = .ok (.iconst 1, 1) := by decide +kernel
theorem d3_47 : decode method_2_code 47 = .ok (.aaload, 1) := by decide +kernel
theorem d3_48 : decode method_2_code 48 = .ok (.invokevirtual 9, 3) := by decide +kernel
theorem d3_51 : decode method_2_code 51 = .ok (.ifCond .eq 18, 3) := by decide +kernel
theorem d3_54 : decode method_2_code 54 = .ok (.ldc 17, 2) := by decide +kernel
theorem d3_56 : decode method_2_code 56 = .ok (.aload_n 0, 1) := by decide +kernel
theorem d3_57 : decode method_2_code 57 = .ok (.iconst 2, 1) := by decide +kernel
theorem d3_58 : decode method_2_code 58 = .ok (.aaload, 1) := by decide +kernel
theorem d3_59 : decode method_2_code 59 = .ok (.invokevirtual 9, 3) := by decide +kernel
theorem d3_62 : decode method_2_code 62 = .ok (.ifCond .eq 7, 3) := by decide +kernel
theorem d3_65 : decode method_2_code 65 = .ok (.iconst 1, 1) := by decide +kernel
theorem d3_66 : decode method_2_code 66 = .ok (.goto 4, 3) := by decide +kernel
theorem d3_70 : decode method_2_code 70 = .ok (.ireturn, 1) := by decide +kernel
theorem pn_SideIndicatorsPinLaw : plainName "com/example/gridclear/gridclear/image/SideIndicatorsPinLaw" = true := by first | (simp [plainName, overriddenIn]; done) | decide +kernel
theorem ef_rm3 (m : MethodId) (x0 : Addr) : entryFrame m #[(.ref x0)] 1 = mkF m 0 #[.val (.ref x0)] [] := by first | (simp [entryFrame, mkF, argsToLocals, Value.category]; done) | rfl
def Q3 (Z : State) (b1 : Addr) (k1 : ClassId) (a__VALUES : Addr) (a_FRONT_BW : Addr) (a_BACK_BW : Addr) (a_FRONT_GREY : Addr) (a_FRONT_BW_indicator : Addr) (a_BACK_BW_indicator : Addr) (a_FRONT_GREY_indicator : Addr) (a_FRONT_BW_indicator_value : Addr) (a_BACK_BW_indicator_value : Addr) (a_FRONT_GREY_indicator_value : Addr) (k__VALUES : ClassId) (k_FRONT_BW_indicator_value : ClassId) (k_BACK_BW_indicator_value : ClassId) (k_FRONT_GREY_indicator_value : ClassId) (cs : Int32) (h0 : Heap) (n0 : Nat) (v : Option Value) (h : Heap) (L : List Loc) : Prop := v = some (.int (1 : Int32)) ∧ Fr n0 L ∧ Keep h0 h []
set_option maxRecDepth 65536 in
set_option maxHeartbeats 40000000 in
theorem rm3 (l : Launch) (Z : State) (a0 : Array Value) (hw : ∀ d ∈ tables_1, d.before a0 Z = true) (ws : List Jvm.Cond) (b1 : Addr) (k1 : ClassId) (a__VALUES : Addr) (a_FRONT_BW : Addr) (a_BACK_BW : Addr) (a_FRONT_GREY : Addr) (a_FRONT_BW_indicator : Addr) (a_BACK_BW_indicator : Addr) (a_FRONT_GREY_indicator : Addr) (a_FRONT_BW_indicator_value : Addr) (a_BACK_BW_indicator_value : Addr) (a_FRONT_GREY_indicator_value : Addr) (k__VALUES : ClassId) (k_FRONT_BW_indicator_value : ClassId) (k_BACK_BW_indicator_value : ClassId) (k_FRONT_GREY_indicator_value : ClassId) (cs : Int32) (h0 : Heap) (n0 : Nat) (O0 : Old Z n0 h0) (FS : OwnSt Z a__VALUES a_FRONT_BW a_BACK_BW a_FRONT_GREY a_FRONT_BW_indicator a_BACK_BW_indicator a_FRONT_GREY_indicator a_FRONT_BW_indicator_value a_BACK_BW_indicator_value a_FRONT_GREY_indicator_value k__VALUES k_FRONT_BW_indicator_value k_BACK_BW_indicator_value k_FRONT_GREY_indicator_value cs) (Vb : Arv Z h0 b1 k1 (.object "java/lang/String") (3 : Int32) [.ref a_FRONT_BW_indicator, .ref a_BACK_BW_indicator, .ref a_FRONT_GREY_indicator] .null) :
    MetFree l (⟨"com/example/gridclear/gridclear/image/SideIndicatorsPinLaw", "exact", "([Ljava/lang/String;)Z"⟩ : MethodName) (head1 (Jvm.Cond.code (⟨"com/example/gridclear/gridclear/image/SideIndicatorsPinLaw", "exact", "([Ljava/lang/String;)Z"⟩ : MethodName) method_2_code 1 (some .boolean) :: ws) ({ frames := 2, cells := 6, slots := 112, locals := 28 } : Room)) (fun a U => a = #[(.ref b1)] ∧ Z.Warmed39 U.vm ∧ U.heap = h0 ∧ CHv Z own_EL U.vm h0) (fun _ _ _ _ _ => True) (fun _ U o U' => ∃ v L, o = .returned v ∧ Q3 Z b1 k1 a__VALUES a_FRONT_BW a_BACK_BW a_FRONT_GREY a_FRONT_BW_indicator a_BACK_BW_indicator a_FRONT_GREY_indicator a_FRONT_BW_indicator_value a_BACK_BW_indicator_value a_FRONT_GREY_indicator_value k__VALUES k_FRONT_BW_indicator_value k_BACK_BW_indicator_value k_FRONT_GREY_indicator_value cs h0 n0 v U'.heap L ∧ CHr Z own_EL U.vm U.heap U'.vm U'.heap ∧ ReturnedEndW U o U' L ({ frames := 2, cells := 6, slots := 112, locals := 28 } : Room).cells ({ frames := 2, cells := 6, slots := 112, locals := 28 } : Room).slots) := by
  refine MetFree.of_bodySF (plainFor_of_name pn_SideIndicatorsPinLaw) hisR ?_
  intro p e s m args below meth c s₁ Bd hml0 hP hK
  obtain ⟨rfl, hZ, hh, hH0⟩ := hP
  have hx := Bd.exec
  have hby := Bd.bytes
  have hlk : meth.locks = false := BodyLoose.notSynchronized Bd
  have hml : c.maxLocals = 1 := hml0
  have hown : s.vm.findClass "com/example/gridclear/gridclear/image/SideIndicatorsPinLaw" = some m.cls := findClass_of_methodNamed Bd.named
  have hnm := (name_of_methodNamed Bd.named Bd.method).1
  have X0 : Stand p l e ({ frames := 2, cells := 6, slots := 112, locals := 28 } : Room) (s.setVm s.vm) m #[(.ref b1)] below meth c s₁ [] 0 0 := Stand.of_body Bd
  have e0 : s₁.heap = h0 := by rw [← hh, Bd.state]; rfl
  have N0 := Fr.nil n0
  have hS0 : s.Since s.vm h0.size := (State.WarmedH.refl s).since _
  show GoesH p e below s Z own_EL (Q3 Z b1 k1 a__VALUES a_FRONT_BW a_BACK_BW a_FRONT_GREY a_FRONT_BW_indicator a_BACK_BW_indicator a_FRONT_GREY_indicator a_FRONT_BW_indicator_value a_BACK_BW_indicator_value a_FRONT_GREY_indicator_value k__VALUES k_FRONT_BW_indicator_value k_BACK_BW_indicator_value k_FRONT_GREY_indicator_value cs h0 n0) ({ frames := 2, cells := 6, slots := 112, locals := 28 } : Room).cells ({ frames := 2, cells := 6, slots := 112, locals := 28 } : Room).slots (s₁.setTop (entryFrame m #[(.ref b1)] 1))
  refine GoesH.enter (g' := (mkF m 0 #[.val (.ref b1)] [])) (ef_rm3 m b1) ?_
  have FS0 := FS
  obtain ⟨S__VALUES, E__VALUES, S_FRONT_BW, E_FRONT_BW, S_BACK_BW, E_BACK_BW, S_FRONT_GREY, E_FRONT_GREY, F_FRONT_BW_indicator, E_FRONT_BW_indicator, F_BACK_BW_indicator, E_BACK_BW_indicator, F_FRONT_GREY_indicator, E_FRONT_GREY_indicator, F_FRONT_BW_indicator_coder, F_FRONT_BW_indicator_value, F_BACK_BW_indicator_coder, F_BACK_BW_indicator_value, F_FRONT_GREY_indicator_coder, F_FRONT_GREY_indicator_value, ne_a_FRONT_BW_indicator_a_FRONT_GREY_indicator, ne_a_BACK_BW_indicator_a_FRONT_GREY_indicator, ne_a_BACK_BW_indicator_a_FRONT_BW_indicator, V__VALUES, V_FRONT_BW_indicator_value, V_BACK_BW_indicator_value, V_FRONT_GREY_indicator_value, S_COMPACT_STRINGS, hcs⟩ := FS0
  refine GoesH.step (B := s₁.setTop (mkF m 1 #[.val (.ref b1)] [(.ref b1)])) (fun _ k => XS.aloadN X0.here hx rfl (hb hby d3_0) rfl rfl k) ?_
  refine GoesH.step (B := s₁.setTop (mkF m 4 #[.val (.ref b1)] [])) (fun _ k => XS.ifnullNo X0.here hx rfl (hb hby d3_1) rfl k) ?_
  refine GoesH.step (B := s₁.setTop (mkF m 5 #[.val (.ref b1)] [(.ref b1)])) (fun _ k => XS.aloadN X0.here hx rfl (hb hby d3_4) rfl rfl k) ?_
  obtain ⟨c1, Ar1, -, Sz1, Nn1, -, -⟩ := id Vb
  have len1 := X0.arraylength hx (by rw [e0]; exact Ar1.1) (State.isArrayOf_alike hZ.alike Ar1.2.1) (g := (mkF m 5 #[.val (.ref b1)] [(.ref b1)])) rfl rfl (hb hby d3_5)
  rw [len_of Sz1 Nn1] at len1
  refine GoesH.step (B := s₁.setTop (mkF m 6 #[.val (.ref b1)] [(.int (3 : Int32))])) len1 ?_
  refine GoesH.step (B := s₁.setTop (mkF m 7 #[.val (.ref b1)] [(.int (3 : Int32)), (.int (3 : Int32))])) (fun _ k => XS.iconst X0.here hx rfl (hb hby d3_6) k) ?_
  refine GoesH.step (B := s₁.setTop (mkF m 12 #[.val (.ref b1)] [])) (fun _ k => XS.icmpYes X0.here hx rfl (pc0 := 7) (pc' := 12) rfl (hb hby d3_7) rfl (teq (by decide)).1 (by decide) (by decide) k) ?_
  refine GoesH.step (B := s₁.setTop (mkF m 13 #[.val (.ref b1)] [(.ref b1)])) (fun _ k => XS.aloadN X0.here hx rfl (hb hby d3_12) rfl rfl k) ?_
  refine GoesH.step (B := s₁.setTop (mkF m 14 #[.val (.ref b1)] [(.int (0 : Int32)), (.ref b1)])) (fun _ k => XS.iconst X0.here hx rfl (hb hby d3_13) k) ?_
  obtain ⟨c2, Ar2, -, Sz2, Nn2, Hs2, -⟩ := id Vb
  have hin2 : ¬ ((0 : Int32) < 0 ∨ c2.slots.size ≤ ((0 : Int32)).toNatClampNeg) := inb_of Sz2 ⟨by decide, by decide⟩
  refine GoesH.step (B := s₁.setTop (mkF m 15 #[.val (.ref b1)] [(.ref a_FRONT_BW_indicator)])) (X0.aaload hx (j := (0 : Int32)) (v := (.ref a_FRONT_BW_indicator)) (by rw [e0]; exact Ar2.1) (State.isArrayOf_alike hZ.alike Ar2.2.1) rfl Ar2.2.2 hin2 (Has.at Hs2 hin2 rfl) (g := (mkF m 14 #[.val (.ref b1)] [(.int (0 : Int32)), (.ref b1)])) rfl rfl (hb hby d3_14)) ?_
  refine GoesH.step (B := s₁.setTop (mkF m 18 #[.val (.ref b1)] [])) (fun _ k => XS.ifnullNo X0.here hx rfl (hb hby d3_15) rfl k) ?_
  refine GoesH.step (B := s₁.setTop (mkF m 19 #[.val (.ref b1)] [(.ref b1)])) (fun _ k => XS.aloadN X0.here hx rfl (hb hby d3_18) rfl rfl k) ?_
  refine GoesH.step (B := s₁.setTop (mkF m 20 #[.val (.ref b1)] [(.int (1 : Int32)), (.ref b1)])) (fun _ k => XS.iconst X0.here hx rfl (hb hby d3_19) k) ?_
  obtain ⟨c3, Ar3, -, Sz3, Nn3, Hs3, -⟩ := id Vb
  have hin3 : ¬ ((1 : Int32) < 0 ∨ c3.slots.size ≤ ((1 : Int32)).toNatClampNeg) := inb_of Sz3 ⟨by decide, by decide⟩
  refine GoesH.step (B := s₁.setTop (mkF m 21 #[.val (.ref b1)] [(.ref a_BACK_BW_indicator)])) (X0.aaload hx (j := (1 : Int32)) (v := (.ref a_BACK_BW_indicator)) (by rw [e0]; exact Ar3.1) (State.isArrayOf_alike hZ.alike Ar3.2.1) rfl Ar3.2.2 hin3 (Has.at Hs3 hin3 rfl) (g := (mkF m 20 #[.val (.ref b1)] [(.int (1 : Int32)), (.ref b1)])) rfl rfl (hb hby d3_20)) ?_
  refine GoesH.step (B := s₁.setTop (mkF m 24 #[.val (.ref b1)] [])) (fun _ k => XS.ifnullNo X0.here hx rfl (hb hby d3_21) rfl k) ?_
  refine GoesH.step (B := s₁.setTop (mkF m 25 #[.val (.ref b1)] [(.ref b1)])) (fun _ k => XS.aloadN X0.here hx rfl (hb hby d3_24) rfl rfl k) ?_
  refine GoesH.step (B := s₁.setTop (mkF m 26 #[.val (.ref b1)] [(.int (2 : Int32)), (.ref b1)])) (fun _ k => XS.iconst X0.here hx rfl (hb hby d3_25) k) ?_
  obtain ⟨c4, Ar4, -, Sz4, Nn4, Hs4, -⟩ := id Vb
  have hin4 : ¬ ((2 : Int32) < 0 ∨ c4.slots.size ≤ ((2 : Int32)).toNatClampNeg) := inb_of Sz4 ⟨by decide, by decide⟩
  refine GoesH.step (B := s₁.setTop (mkF m 27 #[.val (.ref b1)] [(.ref a_FRONT_GREY_indicator)])) (X0.aaload hx (j := (2 : Int32)) (v := (.ref a_FRONT_GREY_indicator)) (by rw [e0]; exact Ar4.1) (State.isArrayOf_alike hZ.alike Ar4.2.1) rfl Ar4.2.2 hin4 (Has.at Hs4 hin4 rfl) (g := (mkF m 26 #[.val (.ref b1)] [(.int (2 : Int32)), (.ref b1)])) rfl rfl (hb hby d3_26)) ?_
  refine GoesH.step (B := s₁.setTop (mkF m 32 #[.val (.ref b1)] [])) (fun _ k => XS.ifnonnullYes X0.here hx rfl (pc0 := 27) (pc' := 32) rfl (hb hby d3_27) rfl (by decide) (by decide) k) ?_
  obtain ⟨b5, T5, h5, k5, v5, c5, X5, e5, E5, hS5, hk5, hZ5, hown5, Ea5, Fc5, Fv5, Va5, la5, lb5, H5, I5, Sf5, st5⟩ := ldcCH X0 hx hZ hown (hw _ (List.mem_of_getElem? (i := 31) rfl)) (own_wS hw) e0 hS0 (Nat.le_refl _) (own_EW hw) (List.mem_of_getElem? (i := 0) rfl) (CHr.refl hH0).1 (vs := [.int (70 : Int32), .int (114 : Int32), .int (111 : Int32), .int (110 : Int32), .int (116 : Int32), .int (32 : Int32), .int (66 : Int32), .int (87 : Int32)]) (z := (8 : Int32)) ⟨by decide, by decide⟩ (by decide) (by decide) (g := (mkF m 32 #[.val (.ref b1)] [])) rfl (hb hby d3_32) (n := 32) (by decide) (by decide) (by decide) (by decide)
  have O_5 := O0.ext E5
  have CH5 := ((CHr.refl hH0).trans H5)
  have K_5 := (Keep.refl h0 []).ext E5
  refine GoesH.step (B := T5.setTop (mkF m 34 #[.val (.ref b1)] [(.ref b5)])) st5 ?_
  refine GoesH.step (B := T5.setTop (mkF m 35 #[.val (.ref b1)] [(.ref b1), (.ref b5)])) (fun _ k => XS.aloadN X5.here hx rfl (hb hby d3_34) rfl rfl k) ?_
  refine GoesH.step (B := T5.setTop (mkF m 36 #[.val (.ref b1)] [(.int (0 : Int32)), (.ref b1), (.ref b5)])) (fun _ k => XS.iconst X5.here hx rfl (hb hby d3_35) k) ?_
  have f6 := (Vb.ext E5)
  obtain ⟨c7, Ar7, -, Sz7, Nn7, Hs7, -⟩ := id f6
  have hin7 : ¬ ((0 : Int32) < 0 ∨ c7.slots.size ≤ ((0 : Int32)).toNatClampNeg) := inb_of Sz7 ⟨by decide, by decide⟩
  refine GoesH.step (B := T5.setTop (mkF m 37 #[.val (.ref b1)] [(.ref a_FRONT_BW_indicator), (.ref b5)])) (X5.aaload hx (j := (0 : Int32)) (v := (.ref a_FRONT_BW_indicator)) (by rw [e5]; exact Ar7.1) (State.isArrayOf_alike hZ5.alike Ar7.2.1) rfl Ar7.2.2 hin7 (Has.at Hs7 hin7 rfl) (g := (mkF m 36 #[.val (.ref b1)] [(.int (0 : Int32)), (.ref b1), (.ref b5)])) rfl rfl (hb hby d3_36)) ?_
  have f9 := S_COMPACT_STRINGS.ext O_5.2
  have f10 := E_FRONT_BW_indicator.ext O_5.2
  have f11 := F_FRONT_BW_indicator_coder.ext O_5.2
  have f12 := F_FRONT_BW_indicator_value.ext O_5.2
  have f13 := V_FRONT_BW_indicator_value.ext O_5.2
  obtain ⟨cq8, kq8, qa8, qb8, qc8⟩ := isOf hZ5 e5 Ea5
  obtain ⟨_, _, ⟨T8, L8, k8, n8⟩, -, X8, ⟨Lc8, hQ8, l8, y8, z8⟩, st8⟩ := X5.virtualBack hx (y := (⟨"java/lang/String", "equals", "(Ljava/lang/Object;)Z"⟩ : MethodName)) (z := (⟨"java/lang/String", "equals", "(Ljava/lang/Object;)Z"⟩ : MethodName)) hown5 (mvT hZ5 (hw _ (List.mem_of_getElem? (i := 39) rfl))) (mvT hZ5 (hw _ (List.mem_of_getElem? (i := 40) rfl))) (notFace_of_selects (args := #[]) (mvT hZ5 (hw _ (List.mem_of_getElem? (i := 42) rfl)))) (mvT hZ5 (hw _ (List.mem_of_getElem? (i := 42) rfl))) (mvT hZ5 (hw _ (List.mem_of_getElem? (i := 41) rfl))) (by decide) (backOf (W := 0) (rmEq0 l Z a0 hw [] b5 a_FRONT_BW_indicator v5 a_FRONT_BW_indicator_value c5 k_FRONT_BW_indicator_value cs h5 n0 O_5 f9 hcs f10 Fc5 Fv5 Va5 f11 f12 f13) hZ5 (hw _ (List.mem_of_getElem? (i := 43) rfl)) (hw _ (List.mem_of_getElem? (i := 32) rfl)) (by decide) (by decide)) qa8 qc8 (g := (mkF m 37 #[.val (.ref b1)] [(.ref a_FRONT_BW_indicator), (.ref b5)])) rfl (by rw [hml]; rfl) (Steps.refl _) (argsL := [(.ref a_FRONT_BW_indicator)]) (rest := []) (lenOf pd_2 rfl) rfl (by show 2 * 0 + _ ≤ _; exact Nat.le_of_eq rfl) (hb hby d3_37) (fun _ _ => ⟨rfl, e5, (by decide : 2 + 0 ≤ _), (by decide : 36 + 0 ≤ _)⟩)
  dsimp only [Pt.U, Pt.locs, Pt.cells, Pt.slots] at X8 l8 y8 z8 st8 hQ8
  subst l8 y8 z8
  obtain ⟨rfl, Nq8, eh8⟩ := hQ8
  have N8 := Fr.app N0 Nq8
  refine GoesH.via (B := T8.setTop (mkF m 40 #[.val (.ref b1)] [(.int (1 : Int32))])) st8 ?_
  refine GoesH.step (B := T8.setTop (mkF m 43 #[.val (.ref b1)] [])) (fun _ k => XS.ifNo X8.here hx rfl (hb hby d3_40) rfl ((if0 _ _).trans (feq (by decide)).1) k) ?_
  obtain ⟨b14, T14, h14, k14, v14, c14, X14, e14, E14, hS14, hk14, hZ14, hown14, Ea14, Fc14, Fv14, Va14, la14, lb14, H14, I14, Sf14, st14⟩ := ldcCH X8 hx hZ5 hown5 (hw _ (List.mem_of_getElem? (i := 52) rfl)) (own_wS hw) eh8 hS5 hk5 (own_EW hw) (List.mem_of_getElem? (i := 1) rfl) CH5.1 (vs := [.int (66 : Int32), .int (97 : Int32), .int (99 : Int32), .int (107 : Int32), .int (32 : Int32), .int (66 : Int32), .int (87 : Int32)]) (z := (7 : Int32)) ⟨by decide, by decide⟩ (by decide) (by decide) (g := (mkF m 43 #[.val (.ref b1)] [])) rfl (hb hby d3_43) (n := 28) (by decide) (by decide) (by decide) (by decide)
  have O_14 := O_5.ext E14
  have CH14 := (CH5.trans H14)
  have K_14 := K_5.ext E14
  refine GoesH.step (B := T14.setTop (mkF m 45 #[.val (.ref b1)] [(.ref b14)])) st14 ?_
  refine GoesH.step (B := T14.setTop (mkF m 46 #[.val (.ref b1)] [(.ref b1), (.ref b14)])) (fun _ k => XS.aloadN X14.here hx rfl (hb hby d3_45) rfl rfl k) ?_
  refine GoesH.step (B := T14.setTop (mkF m 47 #[.val (.ref b1)] [(.int (1 : Int32)), (.ref b1), (.ref b14)])) (fun _ k => XS.iconst X14.here hx rfl (hb hby d3_46) k) ?_
  have f15 := (f6.ext E14)
  obtain ⟨c16, Ar16, -, Sz16, Nn16, Hs16, -⟩ := id f15
  have hin16 : ¬ ((1 : Int32) < 0 ∨ c16.slots.size ≤ ((1 : Int32)).toNatClampNeg) := inb_of Sz16 ⟨by decide, by decide⟩
  refine GoesH.step (B := T14.setTop (mkF m 48 #[.val (.ref b1)] [(.ref a_BACK_BW_indicator), (.ref b14)])) (X14.aaload hx (j := (1 : Int32)) (v := (.ref a_BACK_BW_indicator)) (by rw [e14]; exact Ar16.1) (State.isArrayOf_alike hZ14.alike Ar16.2.1) rfl Ar16.2.2 hin16 (Has.at Hs16 hin16 rfl) (g := (mkF m 47 #[.val (.ref b1)] [(.int (1 : Int32)), (.ref b1), (.ref b14)])) rfl rfl (hb hby d3_47)) ?_
  have f18 := S_COMPACT_STRINGS.ext O_14.2
  have f19 := E_BACK_BW_indicator.ext O_14.2
  have f20 := F_BACK_BW_indicator_coder.ext O_14.2
  have f21 := F_BACK_BW_indicator_value.ext O_14.2
  have f22 := V_BACK_BW_indicator_value.ext O_14.2
  obtain ⟨cq17, kq17, qa17, qb17, qc17⟩ := isOf hZ14 e14 Ea14
  obtain ⟨_, _, ⟨T17, L17, k17, n17⟩, -, X17, ⟨Lc17, hQ17, l17, y17, z17⟩, st17⟩ := X14.virtualBack hx (y := (⟨"java/lang/String", "equals", "(Ljava/lang/Object;)Z"⟩ : MethodName)) (z := (⟨"java/lang/String", "equals", "(Ljava/lang/Object;)Z"⟩ : MethodName)) hown14 (mvT hZ14 (hw _ (List.mem_of_getElem? (i := 39) rfl))) (mvT hZ14 (hw _ (List.mem_of_getElem? (i := 40) rfl))) (notFace_of_selects (args := #[]) (mvT hZ14 (hw _ (List.mem_of_getElem? (i := 42) rfl)))) (mvT hZ14 (hw _ (List.mem_of_getElem? (i := 42) rfl))) (mvT hZ14 (hw _ (List.mem_of_getElem? (i := 41) rfl))) (by decide) (backOf (W := 0) (rmEq1 l Z a0 hw [] b14 a_BACK_BW_indicator v14 a_BACK_BW_indicator_value c14 k_BACK_BW_indicator_value cs h14 n0 O_14 f18 hcs f19 Fc14 Fv14 Va14 f20 f21 f22) hZ14 (hw _ (List.mem_of_getElem? (i := 43) rfl)) (hw _ (List.mem_of_getElem? (i := 32) rfl)) (by decide) (by decide)) qa17 qc17 (g := (mkF m 48 #[.val (.ref b1)] [(.ref a_BACK_BW_indicator), (.ref b14)])) rfl (by rw [hml]; rfl) (Steps.refl _) (argsL := [(.ref a_BACK_BW_indicator)]) (rest := []) (lenOf pd_2 rfl) rfl (by show 2 * 0 + _ ≤ _; exact Nat.le_of_eq rfl) (hb hby d3_48) (fun _ _ => ⟨rfl, e14, (by decide : 4 + 0 ≤ _), (by decide : 68 + 0 ≤ _)⟩)
  dsimp only [Pt.U, Pt.locs, Pt.cells, Pt.slots] at X17 l17 y17 z17 st17 hQ17
  subst l17 y17 z17
  obtain ⟨rfl, Nq17, eh17⟩ := hQ17
  have N17 := Fr.app N8 Nq17
  refine GoesH.via (B := T17.setTop (mkF m 51 #[.val (.ref b1)] [(.int (1 : Int32))])) st17 ?_
  refine GoesH.step (B := T17.setTop (mkF m 54 #[.val (.ref b1)] [])) (fun _ k => XS.ifNo X17.here hx rfl (hb hby d3_51) rfl ((if0 _ _).trans (feq (by decide)).1) k) ?_
  obtain ⟨b23, T23, h23, k23, v23, c23, X23, e23, E23, hS23, hk23, hZ23, hown23, Ea23, Fc23, Fv23, Va23, la23, lb23, H23, I23, Sf23, st23⟩ := ldcCH X17 hx hZ14 hown14 (hw _ (List.mem_of_getElem? (i := 53) rfl)) (own_wS hw) eh17 hS14 hk14 (own_EW hw) (List.mem_of_getElem? (i := 2) rfl) CH14.1 (vs := [.int (70 : Int32), .int (114 : Int32), .int (111 : Int32), .int (110 : Int32), .int (116 : Int32), .int (32 : Int32), .int (71 : Int32), .int (114 : Int32), .int (97 : Int32), .int (121 : Int32)]) (z := (10 : Int32)) ⟨by decide, by decide⟩ (by decide) (by decide) (g := (mkF m 54 #[.val (.ref b1)] [])) rfl (hb hby d3_54) (n := 40) (by decide) (by decide) (by decide) (by decide)
  have O_23 := O_14.ext E23
  have CH23 := (CH14.trans H23)
  have K_23 := K_14.ext E23
  refine GoesH.step (B := T23.setTop (mkF m 56 #[.val (.ref b1)] [(.ref b23)])) st23 ?_
  refine GoesH.step (B := T23.setTop (mkF m 57 #[.val (.ref b1)] [(.ref b1), (.ref b23)])) (fun _ k => XS.aloadN X23.here hx rfl (hb hby d3_56) rfl rfl k) ?_
  refine GoesH.step (B := T23.setTop (mkF m 58 #[.val (.ref b1)] [(.int (2 : Int32)), (.ref b1), (.ref b23)])) (fun _ k => XS.iconst X23.here hx rfl (hb hby d3_57) k) ?_
  have f24 := (f15.ext E23)
  obtain ⟨c25, Ar25, -, Sz25, Nn25, Hs25, -⟩ := id f24
  have hin25 : ¬ ((2 : Int32) < 0 ∨ c25.slots.size ≤ ((2 : Int32)).toNatClampNeg) := inb_of Sz25 ⟨by decide, by decide⟩
  refine GoesH.step (B := T23.setTop (mkF m 59 #[.val (.ref b1)] [(.ref a_FRONT_GREY_indicator), (.ref b23)])) (X23.aaload hx (j := (2 : Int32)) (v := (.ref a_FRONT_GREY_indicator)) (by rw [e23]; exact Ar25.1) (State.isArrayOf_alike hZ23.alike Ar25.2.1) rfl Ar25.2.2 hin25 (Has.at Hs25 hin25 rfl) (g := (mkF m 58 #[.val (.ref b1)] [(.int (2 : Int32)), (.ref b1), (.ref b23)])) rfl rfl (hb hby d3_58)) ?_
  have f27 := S_COMPACT_STRINGS.ext O_23.2
  have f28 := E_FRONT_GREY_indicator.ext O_23.2
  have f29 := F_FRONT_GREY_indicator_coder.ext O_23.2
  have f30 := F_FRONT_GREY_indicator_value.ext O_23.2
  have f31 := V_FRONT_GREY_indicator_value.ext O_23.2
  obtain ⟨cq26, kq26, qa26, qb26, qc26⟩ := isOf hZ23 e23 Ea23
  obtain ⟨_, _, ⟨T26, L26, k26, n26⟩, -, X26, ⟨Lc26, hQ26, l26, y26, z26⟩, st26⟩ := X23.virtualBack hx (y := (⟨"java/lang/String", "equals", "(Ljava/lang/Object;)Z"⟩ : MethodName)) (z := (⟨"java/lang/String", "equals", "(Ljava/lang/Object;)Z"⟩ : MethodName)) hown23 (mvT hZ23 (hw _ (List.mem_of_getElem? (i := 39) rfl))) (mvT hZ23 (hw _ (List.mem_of_getElem? (i := 40) rfl))) (notFace_of_selects (args := #[]) (mvT hZ23 (hw _ (List.mem_of_getElem? (i := 42) rfl)))) (mvT hZ23 (hw _ (List.mem_of_getElem? (i := 42) rfl))) (mvT hZ23 (hw _ (List.mem_of_getElem? (i := 41) rfl))) (by decide) (backOf (W := 0) (rmEq2 l Z a0 hw [] b23 a_FRONT_GREY_indicator v23 a_FRONT_GREY_indicator_value c23 k_FRONT_GREY_indicator_value cs h23 n0 O_23 f27 hcs f28 Fc23 Fv23 Va23 f29 f30 f31) hZ23 (hw _ (List.mem_of_getElem? (i := 43) rfl)) (hw _ (List.mem_of_getElem? (i := 32) rfl)) (by decide) (by decide)) qa26 qc26 (g := (mkF m 59 #[.val (.ref b1)] [(.ref a_FRONT_GREY_indicator), (.ref b23)])) rfl (by rw [hml]; rfl) (Steps.refl _) (argsL := [(.ref a_FRONT_GREY_indicator)]) (rest := []) (lenOf pd_2 rfl) rfl (by show 2 * 0 + _ ≤ _; exact Nat.le_of_eq rfl) (hb hby d3_59) (fun _ _ => ⟨rfl, e23, (by decide : 6 + 0 ≤ _), (by decide : 112 + 0 ≤ _)⟩)
  dsimp only [Pt.U, Pt.locs, Pt.cells, Pt.slots] at X26 l26 y26 z26 st26 hQ26
  subst l26 y26 z26
  obtain ⟨rfl, Nq26, eh26⟩ := hQ26
  have N26 := Fr.app N17 Nq26
  refine GoesH.via (B := T26.setTop (mkF m 62 #[.val (.ref b1)] [(.int (1 : Int32))])) st26 ?_
  refine GoesH.step (B := T26.setTop (mkF m 65 #[.val (.ref b1)] [])) (fun _ k => XS.ifNo X26.here hx rfl (hb hby d3_62) rfl ((if0 _ _).trans (feq (by decide)).1) k) ?_
  refine GoesH.step (B := T26.setTop (mkF m 66 #[.val (.ref b1)] [(.int (1 : Int32))])) (fun _ k => XS.iconst X26.here hx rfl (hb hby d3_65) k) ?_
  refine GoesH.step (B := T26.setTop (mkF m 70 #[.val (.ref b1)] [(.int (1 : Int32))])) (fun _ k => XS.goto X26.here hx rfl (pc0 := 66) (pc' := 70) rfl (hb hby d3_66) (by decide) (by decide) k) ?_
  exact GoesH.retN X26 hS23 hk23 hZ23 (own_EW hw) (by rw [show s.heap = h0 from hh]; exact CH23) hx eh26 (t := .boolean) Bd.returns (by simp) hlk (hb hby d3_70) (by decide) (by decide) (⟨rfl, N26, K_23⟩)
theorem d12_0 : decode jdk_52_method_21_code 0 = .ok (.iconst 0, 1) := by decide +kernel
theorem d12_1 : decode jdk_52_method_21_code 1 = .ok (.istore 5, 2) := by decide +kernel
theorem d12_3 : decode jdk_52_method_21_code 3 = .ok (.iload 5, 2) := by decide +kernel
theorem d12_5 : decode jdk_52_method_21_code 5 = .ok (.iload 4, 2) := by decide +kernel
theorem d12_7 : decode jdk_52_method_21_code 7 = .ok (.if_icmp .ge 37, 3) := by decide +kernel
theorem d12_10 : decode jdk_52_method_21_code 10 = .ok (.aload_n 0, 1) := by decide +kernel
theorem d12_11 : decode jdk_52_method_21_code 11 = .ok (.iload_n 1, 1) := by decide +kernel
theorem d12_12 : decode jdk_52_method_21_code 12 = .ok (.caload, 1) := by decide +kernel
theorem d12_13 : decode jdk_52_method_21_code 13 = .ok (.istore 6, 2) := by decide +kernel
theorem d12_15 : decode jdk_52_method_21_code 15 = .ok (.iload 6, 2) := by decide +kernel
theorem d12_17 : decode jdk_52_method_21_code 17 = .ok (.sipush 255, 3) := by decide +kernel
theorem d12_20 : decode jdk_52_method_21_code 20 = .ok (.if_icmp .le 6, 3) := by decide +kernel
theorem d12_26 : decode jdk_52_method_21_code 26 = .ok (.aload_n 2, 1) := by decide +kernel
theorem d12_27 : decode jdk_52_method_21_code 27 = .ok (.iload_n 3, 1) := by decide +kernel
theorem d12_28 : decode jdk_52_method_21_code 28 = .ok (.iload 6, 2) := by decide +kernel
theorem d12_30 : decode jdk_52_method_21_code 30 = .ok (.i2b, 1) := by decide +kernel
theorem d12_31 : decode jdk_52_method_21_code 31 = .ok (.bastore, 1) := by decide +kernel
theorem d12_32 : decode jdk_52_method_21_code 32 = .ok (.iinc 1 1, 3) := by decide +kernel
theorem d12_35 : decode jdk_52_method_21_code 35 = .ok (.iinc 3 1, 3) := by decide +kernel
theorem d12_38 : decode jdk_52_method_21_code 38 = .ok (.iinc 5 1, 3) := by decide +kernel
theorem d12_41 : decode jdk_52_method_21_code 41 = .ok (.goto (-38), 3) := by decide +kernel
theorem d12_44 : decode jdk_52_method_21_code 44 = .ok (.iload 4, 2) := by decide +kernel
theorem d12_46 : decode jdk_52_method_21_code 46 = .ok (.ireturn, 1) := by decide +kernel
theorem pn_StringUTF16 : plainName "java/lang/StringUTF16" = true := by first | (simp [plainName, overriddenIn]; done) | decide +kernel
theorem ef_rmC5 (m : MethodId) (x0 : Addr) (x1 : Int32) (x2 : Addr) (x3 : Int32) (x4 : Int32) : entryFrame m #[(.ref x0), (.int x1), (.ref x2), (.int x3), (.int x4)] 7 = mkF m 0 #[.val (.ref x0), .val (.int x1), .val (.ref x2), .val (.int x3), .val (.int x4), .unset, .unset] [] := by first | (simp [entryFrame, mkF, argsToLocals, Value.category]; done) | rfl
def QC5 (Z : State) (ca : Addr) (kc : ClassId) (ch : Int32) (bb : Addr) (kb : ClassId) (h0 : Heap) (n0 : Nat) (v : Option Value) (h : Heap) (L : List Loc) : Prop := v = some (.int (1 : Int32)) ∧ Fr n0 L ∧ Keep h0 h [bb] ∧ Arv Z h bb kb .byte (1 : Int32) [.int (nar .byte (ch.toInt8.toInt32))] (.int (0 : Int32))
set_option maxRecDepth 65536 in
set_option maxHeartbeats 40000000 in
theorem rmC5 (l : Launch) (Z : State) (a0 : Array Value) (hw : ∀ d ∈ tables_1, d.before a0 Z = true) (ws : List Jvm.Cond) (ca : Addr) (kc : ClassId) (ch : Int32) (bb : Addr) (kb : ClassId) (h0 : Heap) (n0 : Nat) (O0 : Old Z n0 h0) (Vc : Arv Z h0 ca kc .char (1 : Int32) [.int ch] (.int (0 : Int32))) (Vb : Arv Z h0 bb kb .byte (1 : Int32) [.int (0 : Int32)] (.int (0 : Int32))) (gb : n0 ≤ bb) (ncb : ca ≠ bb) (hch : ¬ (255 : Int32) < ch) :
    MetFree l (⟨"java/lang/StringUTF16", "compress", "([CI[BII)I"⟩ : MethodName) (head1 (Jvm.Cond.code (⟨"java/lang/StringUTF16", "compress", "([CI[BII)I"⟩ : MethodName) jdk_52_method_21_code 7 (some .int) :: ws) ({ frames := 0, cells := 0, slots := 0, locals := 0 } : Room)) (fun a U => a = #[(.ref ca), (.int (0 : Int32)), (.ref bb), (.int (0 : Int32)), (.int (1 : Int32))] ∧ Z.Warmed39 U.vm ∧ U.heap = h0) (fun _ _ _ _ _ => True) (fun _ U o U' => ∃ v L, o = .returned v ∧ QC5 Z ca kc ch bb kb h0 n0 v U'.heap L ∧ FrameEnd U o U' L ({ frames := 0, cells := 0, slots := 0, locals := 0 } : Room).cells ({ frames := 0, cells := 0, slots := 0, locals := 0 } : Room).slots) := by
  refine MetFree.of_bodySF (plainFor_of_name pn_StringUTF16) hisR ?_
  intro p e s m args below meth c s₁ Bd hml0 hP hK
  obtain ⟨rfl, hZ, hh⟩ := hP
  have hx := Bd.exec
  have hby := Bd.bytes
  have hlk : meth.locks = false := BodyLoose.notSynchronized Bd
  have hml : c.maxLocals = 7 := hml0
  have hown : s.vm.findClass "java/lang/StringUTF16" = some m.cls := findClass_of_methodNamed Bd.named
  have hnm := (name_of_methodNamed Bd.named Bd.method).1
  have X0 : Stand p l e ({ frames := 0, cells := 0, slots := 0, locals := 0 } : Room) s m #[(.ref ca), (.int (0 : Int32)), (.ref bb), (.int (0 : Int32)), (.int (1 : Int32))] below meth c s₁ [] 0 0 := Stand.of_body Bd
  have e0 : s₁.heap = h0 := by rw [← hh, Bd.state]; rfl
  have N0 := Fr.nil n0
  show Goes p e below s (QC5 Z ca kc ch bb kb h0 n0) ({ frames := 0, cells := 0, slots := 0, locals := 0 } : Room).cells ({ frames := 0, cells := 0, slots := 0, locals := 0 } : Room).slots (s₁.setTop (entryFrame m #[(.ref ca), (.int (0 : Int32)), (.ref bb), (.int (0 : Int32)), (.int (1 : Int32))] 7))
  refine Goes.enter (g' := (mkF m 0 #[.val (.ref ca), .val (.int (0 : Int32)), .val (.ref bb), .val (.int (0 : Int32)), .val (.int (1 : Int32)), .unset, .unset] [])) (ef_rmC5 m ca ((0 : Int32)) bb ((0 : Int32)) ((1 : Int32))) ?_
  refine Goes.step (B := s₁.setTop (mkF m 1 #[.val (.ref ca), .val (.int (0 : Int32)), .val (.ref bb), .val (.int (0 : Int32)), .val (.int (1 : Int32)), .unset, .unset] [(.int (0 : Int32))])) (fun _ k => XS.iconst X0.here hx rfl (hb hby d12_0) k) ?_
  refine Goes.step (B := s₁.setTop (mkF m 3 #[.val (.ref ca), .val (.int (0 : Int32)), .val (.ref bb), .val (.int (0 : Int32)), .val (.int (1 : Int32)), .val (.int (0 : Int32)), .unset] [])) (fun _ k => XS.istore X0.here hx rfl (hb hby d12_1) rfl (l' := #[.val (.ref ca), .val (.int (0 : Int32)), .val (.ref bb), .val (.int (0 : Int32)), .val (.int (1 : Int32)), .val (.int (0 : Int32)), .unset]) rfl k) ?_
  refine Goes.step (B := s₁.setTop (mkF m 5 #[.val (.ref ca), .val (.int (0 : Int32)), .val (.ref bb), .val (.int (0 : Int32)), .val (.int (1 : Int32)), .val (.int (0 : Int32)), .unset] [(.int (0 : Int32))])) (fun _ k => XS.iload X0.here hx rfl (hb hby d12_3) rfl k) ?_
  refine Goes.step (B := s₁.setTop (mkF m 7 #[.val (.ref ca), .val (.int (0 : Int32)), .val (.ref bb), .val (.int (0 : Int32)), .val (.int (1 : Int32)), .val (.int (0 : Int32)), .unset] [(.int (1 : Int32)), (.int (0 : Int32))])) (fun _ k => XS.iload X0.here hx rfl (hb hby d12_5) rfl k) ?_
  refine Goes.step (B := s₁.setTop (mkF m 10 #[.val (.ref ca), .val (.int (0 : Int32)), .val (.ref bb), .val (.int (0 : Int32)), .val (.int (1 : Int32)), .val (.int (0 : Int32)), .unset] [])) (fun _ k => XS.icmpNo X0.here hx rfl (hb hby d12_7) rfl (tlt (by decide)).2.1 k) ?_
  refine Goes.step (B := s₁.setTop (mkF m 11 #[.val (.ref ca), .val (.int (0 : Int32)), .val (.ref bb), .val (.int (0 : Int32)), .val (.int (1 : Int32)), .val (.int (0 : Int32)), .unset] [(.ref ca)])) (fun _ k => XS.aloadN X0.here hx rfl (hb hby d12_10) rfl rfl k) ?_
  refine Goes.step (B := s₁.setTop (mkF m 12 #[.val (.ref ca), .val (.int (0 : Int32)), .val (.ref bb), .val (.int (0 : Int32)), .val (.int (1 : Int32)), .val (.int (0 : Int32)), .unset] [(.int (0 : Int32)), (.ref ca)])) (fun _ k => XS.iloadN X0.here hx rfl (hb hby d12_11) rfl k) ?_
  obtain ⟨c1, Ar1, -, Sz1, Nn1, Hs1, -⟩ := id Vc
  have hin1 : ¬ ((0 : Int32) < 0 ∨ c1.slots.size ≤ ((0 : Int32)).toNatClampNeg) := inb_of Sz1 ⟨by decide, by decide⟩
  refine Goes.step (B := s₁.setTop (mkF m 13 #[.val (.ref ca), .val (.int (0 : Int32)), .val (.ref bb), .val (.int (0 : Int32)), .val (.int (1 : Int32)), .val (.int (0 : Int32)), .unset] [(.int ch)])) (X0.caload hx (j := (0 : Int32)) (v := (.int ch)) (by rw [e0]; exact Ar1.1) (State.isArrayOf_alike hZ.alike Ar1.2.1) Ar1.2.2 hin1 (Has.at Hs1 hin1 rfl) (g := (mkF m 12 #[.val (.ref ca), .val (.int (0 : Int32)), .val (.ref bb), .val (.int (0 : Int32)), .val (.int (1 : Int32)), .val (.int (0 : Int32)), .unset] [(.int (0 : Int32)), (.ref ca)])) rfl rfl (hb hby d12_12)) ?_
  refine Goes.step (B := s₁.setTop (mkF m 15 #[.val (.ref ca), .val (.int (0 : Int32)), .val (.ref bb), .val (.int (0 : Int32)), .val (.int (1 : Int32)), .val (.int (0 : Int32)), .val (.int ch)] [])) (fun _ k => XS.istore X0.here hx rfl (hb hby d12_13) rfl (l' := #[.val (.ref ca), .val (.int (0 : Int32)), .val (.ref bb), .val (.int (0 : Int32)), .val (.int (1 : Int32)), .val (.int (0 : Int32)), .val (.int ch)]) rfl k) ?_
  refine Goes.step (B := s₁.setTop (mkF m 17 #[.val (.ref ca), .val (.int (0 : Int32)), .val (.ref bb), .val (.int (0 : Int32)), .val (.int (1 : Int32)), .val (.int (0 : Int32)), .val (.int ch)] [(.int ch)])) (fun _ k => XS.iload X0.here hx rfl (hb hby d12_15) rfl k) ?_
  refine Goes.step (B := s₁.setTop (mkF m 20 #[.val (.ref ca), .val (.int (0 : Int32)), .val (.ref bb), .val (.int (0 : Int32)), .val (.int (1 : Int32)), .val (.int (0 : Int32)), .val (.int ch)] [(.int (255 : Int32)), (.int ch)])) (fun _ k => XS.sipush X0.here hx rfl (hb hby d12_17) k) ?_
  refine Goes.step (B := s₁.setTop (mkF m 26 #[.val (.ref ca), .val (.int (0 : Int32)), .val (.ref bb), .val (.int (0 : Int32)), .val (.int (1 : Int32)), .val (.int (0 : Int32)), .val (.int ch)] [])) (fun _ k => XS.icmpYes X0.here hx rfl (pc0 := 20) (pc' := 26) rfl (hb hby d12_20) rfl (flt hch).2.2.2 (by decide) (by decide) k) ?_
  refine Goes.step (B := s₁.setTop (mkF m 27 #[.val (.ref ca), .val (.int (0 : Int32)), .val (.ref bb), .val (.int (0 : Int32)), .val (.int (1 : Int32)), .val (.int (0 : Int32)), .val (.int ch)] [(.ref bb)])) (fun _ k => XS.aloadN X0.here hx rfl (hb hby d12_26) rfl rfl k) ?_
  refine Goes.step (B := s₁.setTop (mkF m 28 #[.val (.ref ca), .val (.int (0 : Int32)), .val (.ref bb), .val (.int (0 : Int32)), .val (.int (1 : Int32)), .val (.int (0 : Int32)), .val (.int ch)] [(.int (0 : Int32)), (.ref bb)])) (fun _ k => XS.iloadN X0.here hx rfl (hb hby d12_27) rfl k) ?_
  refine Goes.step (B := s₁.setTop (mkF m 30 #[.val (.ref ca), .val (.int (0 : Int32)), .val (.ref bb), .val (.int (0 : Int32)), .val (.int (1 : Int32)), .val (.int (0 : Int32)), .val (.int ch)] [(.int ch), (.int (0 : Int32)), (.ref bb)])) (fun _ k => XS.iload X0.here hx rfl (hb hby d12_28) rfl k) ?_
  refine Goes.step (B := s₁.setTop (mkF m 31 #[.val (.ref ca), .val (.int (0 : Int32)), .val (.ref bb), .val (.int (0 : Int32)), .val (.int (1 : Int32)), .val (.int (0 : Int32)), .val (.int ch)] [(.int (ch.toInt8.toInt32)), (.int (0 : Int32)), (.ref bb)])) (fun _ k => XS.i2b X0.here hx rfl (hb hby d12_30) rfl k) ?_
  obtain ⟨c2, Ar2, q2, Sz2, Nn2, Hs2, Gs2⟩ := id Vb
  have hin2 : ¬ ((0 : Int32) < 0 ∨ c2.slots.size ≤ ((0 : Int32)).toNatClampNeg) := inb_of Sz2 ⟨by decide, by decide⟩
  obtain ⟨T2, h2, X2, e2, W2, st2⟩ := stB X0 hx hZ e0 Ar2 (j := (0 : Int32)) hin2 (g := (mkF m 31 #[.val (.ref ca), .val (.int (0 : Int32)), .val (.ref bb), .val (.int (0 : Int32)), .val (.int (1 : Int32)), .val (.int (0 : Int32)), .val (.int ch)] [(.int (ch.toInt8.toInt32)), (.int (0 : Int32)), (.ref bb)])) rfl rfl (hb hby d12_31)
  have V2 : Arv Z h2 bb kb .byte (1 : Int32) [(.int (nar .byte (ch.toInt8.toInt32)))] (.int (0 : Int32)) := Arv.set Ar2 q2 Sz2 Nn2 Hs2 Gs2 (fits_nar_byte _) W2 0 rfl (Nat.le_of_ble_eq_true rfl)
  have N2 := Fr.snoc X2 N0 gb
  have O_2 := O0.wr W2 gb
  have K_2 := (Keep.refl h0 [bb]).wr W2 (Or.inl (List.mem_of_getElem? (i := 0) rfl))
  refine Goes.step (B := T2.setTop (mkF m 32 #[.val (.ref ca), .val (.int (0 : Int32)), .val (.ref bb), .val (.int (0 : Int32)), .val (.int (1 : Int32)), .val (.int (0 : Int32)), .val (.int ch)] [])) st2 ?_
  refine Goes.step (B := T2.setTop (mkF m 35 #[.val (.ref ca), .val (.int (1 : Int32)), .val (.ref bb), .val (.int (0 : Int32)), .val (.int (1 : Int32)), .val (.int (0 : Int32)), .val (.int ch)] [])) (fun _ k => XS.iinc X2.here hx rfl (hb hby d12_32) rfl (l' := #[.val (.ref ca), .val (.int (1 : Int32)), .val (.ref bb), .val (.int (0 : Int32)), .val (.int (1 : Int32)), .val (.int (0 : Int32)), .val (.int ch)]) rfl k) ?_
  refine Goes.step (B := T2.setTop (mkF m 38 #[.val (.ref ca), .val (.int (1 : Int32)), .val (.ref bb), .val (.int (1 : Int32)), .val (.int (1 : Int32)), .val (.int (0 : Int32)), .val (.int ch)] [])) (fun _ k => XS.iinc X2.here hx rfl (hb hby d12_35) rfl (l' := #[.val (.ref ca), .val (.int (1 : Int32)), .val (.ref bb), .val (.int (1 : Int32)), .val (.int (1 : Int32)), .val (.int (0 : Int32)), .val (.int ch)]) rfl k) ?_
  refine Goes.step (B := T2.setTop (mkF m 41 #[.val (.ref ca), .val (.int (1 : Int32)), .val (.ref bb), .val (.int (1 : Int32)), .val (.int (1 : Int32)), .val (.int (1 : Int32)), .val (.int ch)] [])) (fun _ k => XS.iinc X2.here hx rfl (hb hby d12_38) rfl (l' := #[.val (.ref ca), .val (.int (1 : Int32)), .val (.ref bb), .val (.int (1 : Int32)), .val (.int (1 : Int32)), .val (.int (1 : Int32)), .val (.int ch)]) rfl k) ?_
  refine Goes.step (B := T2.setTop (mkF m 3 #[.val (.ref ca), .val (.int (1 : Int32)), .val (.ref bb), .val (.int (1 : Int32)), .val (.int (1 : Int32)), .val (.int (1 : Int32)), .val (.int ch)] [])) (fun _ k => XS.goto X2.here hx rfl (pc0 := 41) (pc' := 3) rfl (hb hby d12_41) (by decide) (by decide) k) ?_
  refine Goes.step (B := T2.setTop (mkF m 5 #[.val (.ref ca), .val (.int (1 : Int32)), .val (.ref bb), .val (.int (1 : Int32)), .val (.int (1 : Int32)), .val (.int (1 : Int32)), .val (.int ch)] [(.int (1 : Int32))])) (fun _ k => XS.iload X2.here hx rfl (hb hby d12_3) rfl k) ?_
  refine Goes.step (B := T2.setTop (mkF m 7 #[.val (.ref ca), .val (.int (1 : Int32)), .val (.ref bb), .val (.int (1 : Int32)), .val (.int (1 : Int32)), .val (.int (1 : Int32)), .val (.int ch)] [(.int (1 : Int32)), (.int (1 : Int32))])) (fun _ k => XS.iload X2.here hx rfl (hb hby d12_5) rfl k) ?_
  refine Goes.step (B := T2.setTop (mkF m 44 #[.val (.ref ca), .val (.int (1 : Int32)), .val (.ref bb), .val (.int (1 : Int32)), .val (.int (1 : Int32)), .val (.int (1 : Int32)), .val (.int ch)] [])) (fun _ k => XS.icmpYes X2.here hx rfl (pc0 := 7) (pc' := 44) rfl (hb hby d12_7) rfl (flt (by decide)).2.1 (by decide) (by decide) k) ?_
  refine Goes.step (B := T2.setTop (mkF m 46 #[.val (.ref ca), .val (.int (1 : Int32)), .val (.ref bb), .val (.int (1 : Int32)), .val (.int (1 : Int32)), .val (.int (1 : Int32)), .val (.int ch)] [(.int (1 : Int32))])) (fun _ k => XS.iload X2.here hx rfl (hb hby d12_44) rfl k) ?_
  exact Goes.retI X2 hx e2 Bd.returns hlk (hb hby d12_46) (by decide) (by decide) (⟨rfl, N2, K_2, V2⟩)
theorem d11_0 : decode jdk_52_method_16_code 0 = .ok (.iload_n 2, 1) := by decide +kernel
theorem d11_1 : decode jdk_52_method_16_code 1 = .ok (.newarray .byte, 2) := by decide +kernel
theorem d11_3 : decode jdk_52_method_16_code 3 = .ok (.astore_n 3, 1) := by decide +kernel
theorem d11_4 : decode jdk_52_method_16_code 4 = .ok (.aload_n 0, 1) := by decide +kernel
theorem d11_5 : decode jdk_52_method_16_code 5 = .ok (.iload_n 1, 1) := by decide +kernel
theorem d11_6 : decode jdk_52_method_16_code 6 = .ok (.aload_n 3, 1) := by decide +kernel
theorem d11_7 : decode jdk_52_method_16_code 7 = .ok (.iconst 0, 1) := by decide +kernel
theorem d11_8 : decode jdk_52_method_16_code 8 = .ok (.iload_n 2, 1) := by decide +kernel
theorem d11_9 : decode jdk_52_method_16_code 9 = .ok (.invokestatic 115, 3) := by decide +kernel
theorem pd_3 : parseMethodDescriptor "([CI[BII)I" = some ⟨[(.array .char), .int, (.array .byte), .int, .int], some .int⟩ := by decide +kernel
theorem d11_12 : decode jdk_52_method_16_code 12 = .ok (.istore 4, 2) := by decide +kernel
theorem d11_14 : decode jdk_52_method_16_code 14 = .ok (.iload 4, 2) := by decide +kernel
theorem d11_16 : decode jdk_52_method_16_code 16 = .ok (.iload_n 2, 1) := by decide +kernel
theorem d11_17 : decode jdk_52_method_16_code 17 = .ok (.if_icmp .eq 40, 3) := by decide +kernel
theorem d11_57 : decode jdk_52_method_16_code 57 = .ok (.aload_n 3, 1) := by decide +kernel
theorem d11_58 : decode jdk_52_method_16_code 58 = .ok (.areturn, 1) := by decide +kernel
theorem ef_rmC3 (m : MethodId) (x0 : Addr) (x1 : Int32) (x2 : Int32) : entryFrame m #[(.ref x0), (.int x1), (.int x2)] 6 = mkF m 0 #[.val (.ref x0), .val (.int x1), .val (.int x2), .unset, .unset, .unset] [] := by first | (simp [entryFrame, mkF, argsToLocals, Value.category]; done) | rfl
def QC3 (Z : State) (ca : Addr) (kc : ClassId) (ch : Int32) (h0 : Heap) (n0 : Nat) (v : Option Value) (h : Heap) (L : List Loc) : Prop := ∃ (b : Addr) (k : ClassId), v = some (.ref b) ∧ Fr n0 L ∧ Keep h0 h [] ∧ n0 ≤ b ∧ h0.size ≤ b ∧ Arv Z h b k .byte (1 : Int32) [(.int (nar .byte (ch.toInt8.toInt32)))] (.int (0 : Int32))
set_option maxRecDepth 65536 in
set_option maxHeartbeats 40000000 in
theorem rmC3 (l : Launch) (Z : State) (a0 : Array Value) (hw : ∀ d ∈ tables_1, d.before a0 Z = true) (ws : List Jvm.Cond) (ca : Addr) (kc : ClassId) (ch : Int32) (h0 : Heap) (n0 : Nat) (O0 : Old Z n0 h0) (Vc : Arv Z h0 ca kc .char (1 : Int32) [.int ch] (.int (0 : Int32))) (hch : ¬ (255 : Int32) < ch) :
    MetFree l (⟨"java/lang/StringUTF16", "compress", "([CII)[B"⟩ : MethodName) (head1 (Jvm.Cond.code (⟨"java/lang/StringUTF16", "compress", "([CII)[B"⟩ : MethodName) jdk_52_method_16_code 6 (some (.array .byte)) :: ws) ({ frames := 1, cells := 1, slots := 1, locals := 18 } : Room)) (fun a U => a = #[(.ref ca), (.int (0 : Int32)), (.int (1 : Int32))] ∧ Z.Warmed39 U.vm ∧ U.heap = h0) (fun _ _ _ _ _ => True) (fun _ U o U' => ∃ v L, o = .returned v ∧ QC3 Z ca kc ch h0 n0 v U'.heap L ∧ FrameEnd U o U' L ({ frames := 1, cells := 1, slots := 1, locals := 18 } : Room).cells ({ frames := 1, cells := 1, slots := 1, locals := 18 } : Room).slots) := by
  refine MetFree.of_bodySF (plainFor_of_name pn_StringUTF16) hisR ?_
  intro p e s m args below meth c s₁ Bd hml0 hP hK
  obtain ⟨rfl, hZ, hh⟩ := hP
  have hx := Bd.exec
  have hby := Bd.bytes
  have hlk : meth.locks = false := BodyLoose.notSynchronized Bd
  have hml : c.maxLocals = 6 := hml0
  have hown : s.vm.findClass "java/lang/StringUTF16" = some m.cls := findClass_of_methodNamed Bd.named
  have hnm := (name_of_methodNamed Bd.named Bd.method).1
  have X0 : Stand p l e ({ frames := 1, cells := 1, slots := 1, locals := 18 } : Room) s m #[(.ref ca), (.int (0 : Int32)), (.int (1 : Int32))] below meth c s₁ [] 0 0 := Stand.of_body Bd
  have e0 : s₁.heap = h0 := by rw [← hh, Bd.state]; rfl
  have N0 := Fr.nil n0
  show Goes p e below s (QC3 Z ca kc ch h0 n0) ({ frames := 1, cells := 1, slots := 1, locals := 18 } : Room).cells ({ frames := 1, cells := 1, slots := 1, locals := 18 } : Room).slots (s₁.setTop (entryFrame m #[(.ref ca), (.int (0 : Int32)), (.int (1 : Int32))] 6))
  refine Goes.enter (g' := (mkF m 0 #[.val (.ref ca), .val (.int (0 : Int32)), .val (.int (1 : Int32)), .unset, .unset, .unset] [])) (ef_rmC3 m ca ((0 : Int32)) ((1 : Int32))) ?_
  refine Goes.step (B := s₁.setTop (mkF m 1 #[.val (.ref ca), .val (.int (0 : Int32)), .val (.int (1 : Int32)), .unset, .unset, .unset] [(.int (1 : Int32))])) (fun _ k => XS.iloadN X0.here hx rfl (hb hby d11_0) rfl k) ?_
  obtain ⟨T1, h1, k1, X1, e1, E1, A1, st1⟩ := newP X0 hx hZ (hw _ (List.mem_of_getElem? (i := 34) rfl)) e0 (g := (mkF m 1 #[.val (.ref ca), .val (.int (0 : Int32)), .val (.int (1 : Int32)), .unset, .unset, .unset] [(.int (1 : Int32))])) rfl (hb hby d11_1) rfl (by decide) (cap := 1) (by decide) (by decide) (by decide) (by decide)
  obtain ⟨b1, g1⟩ : ∃ z, z = h0.size := ⟨_, rfl⟩
  rw [← g1] at A1 st1
  have ne_ca_b1 : ca ≠ b1 := Nat.ne_of_lt (Nat.lt_of_lt_of_le Vc.lt (Nat.le_of_eq g1.symm))
  have g_b1 : n0 ≤ b1 := Nat.le_trans (own_z O0) (Nat.le_of_eq g1.symm)
  have O_1 := O0.ext E1
  have sz_b1 : h0.size ≤ b1 := Nat.le_trans (Keep.refl h0 []).1 (Nat.le_of_eq g1.symm)
  have K_1 := (Keep.refl h0 []).ext E1
  have V_b1 : Arv Z h1 b1 k1 .byte (1 : Int32) [(.int (0 : Int32))] (.int (0 : Int32)) := (Arv.new A1 (by decide)).pad (pad_rep [] (.int (0 : Int32)) 1)
  refine Goes.step (B := T1.setTop (mkF m 3 #[.val (.ref ca), .val (.int (0 : Int32)), .val (.int (1 : Int32)), .unset, .unset, .unset] [(.ref b1)])) st1 ?_
  refine Goes.step (B := T1.setTop (mkF m 4 #[.val (.ref ca), .val (.int (0 : Int32)), .val (.int (1 : Int32)), .val (.ref b1), .unset, .unset] [])) (fun _ k => XS.astoreN X1.here hx rfl (hb hby d11_3) rfl rfl (l' := #[.val (.ref ca), .val (.int (0 : Int32)), .val (.int (1 : Int32)), .val (.ref b1), .unset, .unset]) rfl k) ?_
  refine Goes.step (B := T1.setTop (mkF m 5 #[.val (.ref ca), .val (.int (0 : Int32)), .val (.int (1 : Int32)), .val (.ref b1), .unset, .unset] [(.ref ca)])) (fun _ k => XS.aloadN X1.here hx rfl (hb hby d11_4) rfl rfl k) ?_
  refine Goes.step (B := T1.setTop (mkF m 6 #[.val (.ref ca), .val (.int (0 : Int32)), .val (.int (1 : Int32)), .val (.ref b1), .unset, .unset] [(.int (0 : Int32)), (.ref ca)])) (fun _ k => XS.iloadN X1.here hx rfl (hb hby d11_5) rfl k) ?_
  refine Goes.step (B := T1.setTop (mkF m 7 #[.val (.ref ca), .val (.int (0 : Int32)), .val (.int (1 : Int32)), .val (.ref b1), .unset, .unset] [(.ref b1), (.int (0 : Int32)), (.ref ca)])) (fun _ k => XS.aloadN X1.here hx rfl (hb hby d11_6) rfl rfl k) ?_
  refine Goes.step (B := T1.setTop (mkF m 8 #[.val (.ref ca), .val (.int (0 : Int32)), .val (.int (1 : Int32)), .val (.ref b1), .unset, .unset] [(.int (0 : Int32)), (.ref b1), (.int (0 : Int32)), (.ref ca)])) (fun _ k => XS.iconst X1.here hx rfl (hb hby d11_7) k) ?_
  refine Goes.step (B := T1.setTop (mkF m 9 #[.val (.ref ca), .val (.int (0 : Int32)), .val (.int (1 : Int32)), .val (.ref b1), .unset, .unset] [(.int (1 : Int32)), (.int (0 : Int32)), (.ref b1), (.int (0 : Int32)), (.ref ca)])) (fun _ k => XS.iloadN X1.here hx rfl (hb hby d11_8) rfl k) ?_
  have f3 := (Vc.ext E1)
  obtain ⟨_, _, ⟨T2, L2, k2, n2⟩, -, X2, ⟨Lc2, hQ2, l2, y2, z2⟩, st2⟩ := Jvm.LawKit.callS X1 hx (y := (⟨"java/lang/StringUTF16", "compress", "([CI[BII)I"⟩ : MethodName)) hown (mvT hZ (hw _ (List.mem_of_getElem? (i := 82) rfl))) (mvT hZ (hw _ (List.mem_of_getElem? (i := 83) rfl))) (mvT hZ (hw _ (List.mem_of_getElem? (i := 80) rfl))) (mvT hZ (hw _ (List.mem_of_getElem? (i := 84) rfl))) (by decide) (backOf (W := 0) (rmC5 l Z a0 hw [] ca kc ch b1 k1 h1 n0 O_1 f3 V_b1 g_b1 ne_ca_b1 hch) hZ (hw _ (List.mem_of_getElem? (i := 84) rfl)) (hw _ (List.mem_of_getElem? (i := 80) rfl)) (by decide) (by decide)) (g := (mkF m 9 #[.val (.ref ca), .val (.int (0 : Int32)), .val (.int (1 : Int32)), .val (.ref b1), .unset, .unset] [(.int (1 : Int32)), (.int (0 : Int32)), (.ref b1), (.int (0 : Int32)), (.ref ca)])) rfl (by rw [hml]; rfl) (argsL := [(.ref ca), (.int (0 : Int32)), (.ref b1), (.int (0 : Int32)), (.int (1 : Int32))]) (rest := []) (lenOf pd_3 rfl) rfl (by show 2 * 0 + _ ≤ _; exact Nat.le_of_eq rfl) (hb hby d11_9) (fun _ _ => ⟨rfl, e1, (by decide : 1 + 0 ≤ _), (by decide : 1 + 0 ≤ _)⟩)
  dsimp only [Pt.U, Pt.locs, Pt.cells, Pt.slots] at X2 l2 y2 z2 st2 hQ2
  subst l2 y2 z2
  obtain ⟨rfl, Nq2, Kp2, Vq2⟩ := hQ2
  have O_2 := O_1.keep Kp2 (allS g_b1 all0)
  have K_2 := K_1.trans Kp2 (allS (P := fun x => x ∈ _ ∨ _) (Or.inr sz_b1) all0)
  have N2 := Fr.app N0 Nq2
  refine Goes.step (B := T2.setTop (mkF m 12 #[.val (.ref ca), .val (.int (0 : Int32)), .val (.int (1 : Int32)), .val (.ref b1), .unset, .unset] [(.int (1 : Int32))])) st2 ?_
  refine Goes.step (B := T2.setTop (mkF m 14 #[.val (.ref ca), .val (.int (0 : Int32)), .val (.int (1 : Int32)), .val (.ref b1), .val (.int (1 : Int32)), .unset] [])) (fun _ k => XS.istore X2.here hx rfl (hb hby d11_12) rfl (l' := #[.val (.ref ca), .val (.int (0 : Int32)), .val (.int (1 : Int32)), .val (.ref b1), .val (.int (1 : Int32)), .unset]) rfl k) ?_
  refine Goes.step (B := T2.setTop (mkF m 16 #[.val (.ref ca), .val (.int (0 : Int32)), .val (.int (1 : Int32)), .val (.ref b1), .val (.int (1 : Int32)), .unset] [(.int (1 : Int32))])) (fun _ k => XS.iload X2.here hx rfl (hb hby d11_14) rfl k) ?_
  refine Goes.step (B := T2.setTop (mkF m 17 #[.val (.ref ca), .val (.int (0 : Int32)), .val (.int (1 : Int32)), .val (.ref b1), .val (.int (1 : Int32)), .unset] [(.int (1 : Int32)), (.int (1 : Int32))])) (fun _ k => XS.iloadN X2.here hx rfl (hb hby d11_16) rfl k) ?_
  refine Goes.step (B := T2.setTop (mkF m 57 #[.val (.ref ca), .val (.int (0 : Int32)), .val (.int (1 : Int32)), .val (.ref b1), .val (.int (1 : Int32)), .unset] [])) (fun _ k => XS.icmpYes X2.here hx rfl (pc0 := 17) (pc' := 57) rfl (hb hby d11_17) rfl (teq (by decide)).1 (by decide) (by decide) k) ?_
  refine Goes.step (B := T2.setTop (mkF m 58 #[.val (.ref ca), .val (.int (0 : Int32)), .val (.int (1 : Int32)), .val (.ref b1), .val (.int (1 : Int32)), .unset] [(.ref b1)])) (fun _ k => XS.aloadN X2.here hx rfl (hb hby d11_57) rfl rfl k) ?_
  exact Goes.retA X2 hx rfl Bd.returns rfl rfl hlk (hb hby d11_58) (by decide) (by decide) (⟨b1, k1, rfl, N2, K_2, g_b1, sz_b1, Vq2⟩)
theorem d13_0 : decode jdk_52_method_15_code 0 = .ok (.iload_n 1, 1) := by decide +kernel
theorem d13_1 : decode jdk_52_method_15_code 1 = .ok (.aload_n 0, 1) := by decide +kernel
theorem d13_2 : decode jdk_52_method_15_code 2 = .ok (.arraylength, 1) := by decide +kernel
theorem d13_3 : decode jdk_52_method_15_code 3 = .ok (.isub, 1) := by decide +kernel
theorem d13_4 : decode jdk_52_method_15_code 4 = .ok (.bipush 31, 2) := by decide +kernel
theorem d13_6 : decode jdk_52_method_15_code 6 = .ok (.iushr, 1) := by decide +kernel
theorem d13_7 : decode jdk_52_method_15_code 7 = .ok (.i2b, 1) := by decide +kernel
theorem d13_8 : decode jdk_52_method_15_code 8 = .ok (.ireturn, 1) := by decide +kernel
theorem ef_rm13 (m : MethodId) (x0 : Addr) (x1 : Int32) : entryFrame m #[(.ref x0), (.int x1)] 2 = mkF m 0 #[.val (.ref x0), .val (.int x1)] [] := by first | (simp [entryFrame, mkF, argsToLocals, Value.category]; done) | rfl
def Q13 (Z : State) (bb : Addr) (kb : ClassId) (bv : Int32) (h0 : Heap) (n0 : Nat) (v : Option Value) (h : Heap) (L : List Loc) : Prop := v = some (.int (0 : Int32)) ∧ Fr n0 L ∧ h = h0
set_option maxRecDepth 65536 in
set_option maxHeartbeats 40000000 in
theorem rm13 (l : Launch) (Z : State) (a0 : Array Value) (hw : ∀ d ∈ tables_1, d.before a0 Z = true) (ws : List Jvm.Cond) (bb : Addr) (kb : ClassId) (bv : Int32) (h0 : Heap) (n0 : Nat) (O0 : Old Z n0 h0) (Vb : Arv Z h0 bb kb .byte (1 : Int32) [.int bv] (.int (0 : Int32))) :
    MetFree l (⟨"java/lang/StringUTF16", "coderFromArrayLen", "([BI)B"⟩ : MethodName) (head1 (Jvm.Cond.code (⟨"java/lang/StringUTF16", "coderFromArrayLen", "([BI)B"⟩ : MethodName) jdk_52_method_15_code 2 (some .byte) :: ws) ({ frames := 0, cells := 0, slots := 0, locals := 0 } : Room)) (fun a U => a = #[(.ref bb), (.int (1 : Int32))] ∧ Z.Warmed39 U.vm ∧ U.heap = h0) (fun _ _ _ _ _ => True) (fun _ U o U' => ∃ v L, o = .returned v ∧ Q13 Z bb kb bv h0 n0 v U'.heap L ∧ FrameEnd U o U' L ({ frames := 0, cells := 0, slots := 0, locals := 0 } : Room).cells ({ frames := 0, cells := 0, slots := 0, locals := 0 } : Room).slots) := by
  refine MetFree.of_bodySF (plainFor_of_name pn_StringUTF16) hisR ?_
  intro p e s m args below meth c s₁ Bd hml0 hP hK
  obtain ⟨rfl, hZ, hh⟩ := hP
  have hx := Bd.exec
  have hby := Bd.bytes
  have hlk : meth.locks = false := BodyLoose.notSynchronized Bd
  have hml : c.maxLocals = 2 := hml0
  have hown : s.vm.findClass "java/lang/StringUTF16" = some m.cls := findClass_of_methodNamed Bd.named
  have hnm := (name_of_methodNamed Bd.named Bd.method).1
  have X0 : Stand p l e ({ frames := 0, cells := 0, slots := 0, locals := 0 } : Room) s m #[(.ref bb), (.int (1 : Int32))] below meth c s₁ [] 0 0 := Stand.of_body Bd
  have e0 : s₁.heap = h0 := by rw [← hh, Bd.state]; rfl
  have N0 := Fr.nil n0
  show Goes p e below s (Q13 Z bb kb bv h0 n0) ({ frames := 0, cells := 0, slots := 0, locals := 0 } : Room).cells ({ frames := 0, cells := 0, slots := 0, locals := 0 } : Room).slots (s₁.setTop (entryFrame m #[(.ref bb), (.int (1 : Int32))] 2))
  refine Goes.enter (g' := (mkF m 0 #[.val (.ref bb), .val (.int (1 : Int32))] [])) (ef_rm13 m bb ((1 : Int32))) ?_
  refine Goes.step (B := s₁.setTop (mkF m 1 #[.val (.ref bb), .val (.int (1 : Int32))] [(.int (1 : Int32))])) (fun _ k => XS.iloadN X0.here hx rfl (hb hby d13_0) rfl k) ?_
  refine Goes.step (B := s₁.setTop (mkF m 2 #[.val (.ref bb), .val (.int (1 : Int32))] [(.ref bb), (.int (1 : Int32))])) (fun _ k => XS.aloadN X0.here hx rfl (hb hby d13_1) rfl rfl k) ?_
  obtain ⟨c1, Ar1, -, Sz1, Nn1, -, -⟩ := id Vb
  have len1 := X0.arraylength hx (by rw [e0]; exact Ar1.1) (State.isArrayOf_alike hZ.alike Ar1.2.1) (g := (mkF m 2 #[.val (.ref bb), .val (.int (1 : Int32))] [(.ref bb), (.int (1 : Int32))])) rfl rfl (hb hby d13_2)
  rw [len_of Sz1 Nn1] at len1
  refine Goes.step (B := s₁.setTop (mkF m 3 #[.val (.ref bb), .val (.int (1 : Int32))] [(.int (1 : Int32)), (.int (1 : Int32))])) len1 ?_
  refine Goes.step (B := s₁.setTop (mkF m 4 #[.val (.ref bb), .val (.int (1 : Int32))] [(.int (0 : Int32))])) (fun _ k => XS.isub X0.here hx rfl (hb hby d13_3) rfl k) ?_
  refine Goes.step (B := s₁.setTop (mkF m 6 #[.val (.ref bb), .val (.int (1 : Int32))] [(.int (31 : Int32)), (.int (0 : Int32))])) (fun _ k => XS.bipush X0.here hx rfl (hb hby d13_4) k) ?_
  refine Goes.step (B := s₁.setTop (mkF m 7 #[.val (.ref bb), .val (.int (1 : Int32))] [(.int (0 : Int32))])) (fun _ k => XS.iushr X0.here hx rfl (hb hby d13_6) rfl k) ?_
  refine Goes.step (B := s₁.setTop (mkF m 8 #[.val (.ref bb), .val (.int (1 : Int32))] [(.int (0 : Int32))])) (fun _ k => XS.i2b X0.here hx rfl (hb hby d13_7) rfl k) ?_
  exact Goes.retN X0 hx e0 (t := .byte) Bd.returns (by simp) hlk (hb hby d13_8) (by decide) (by decide) (⟨rfl, N0, rfl⟩)
theorem d9_0 : decode jdk_42_method_149_code 0 = .ok (.aload_n 0, 1) := by decide +kernel
theorem d9_1 : decode jdk_42_method_149_code 1 = .ok (.invokespecial 1, 3) := by decide +kernel
theorem d9_4 : decode jdk_42_method_149_code 4 = .ok (.iload_n 3, 1) := by decide +kernel
theorem d9_5 : decode jdk_42_method_149_code 5 = .ok (.ifCond .ne 22, 3) := by decide +kernel
theorem d9_27 : decode jdk_42_method_149_code 27 = .ok (.getstatic 38, 3) := by decide +kernel
theorem d9_30 : decode jdk_42_method_149_code 30 = .ok (.ifCond .eq 28, 3) := by decide +kernel
theorem d9_33 : decode jdk_42_method_149_code 33 = .ok (.aload_n 1, 1) := by decide +kernel
theorem d9_34 : decode jdk_42_method_149_code 34 = .ok (.iload_n 2, 1) := by decide +kernel
theorem d9_35 : decode jdk_42_method_149_code 35 = .ok (.iload_n 3, 1) := by decide +kernel
theorem d9_36 : decode jdk_42_method_149_code 36 = .ok (.invokestatic 177, 3) := by decide +kernel
theorem pd_4 : parseMethodDescriptor "([CII)[B" = some ⟨[(.array .char), .int, .int], some (.array .byte)⟩ := by decide +kernel
theorem d9_39 : decode jdk_42_method_149_code 39 = .ok (.astore 5, 2) := by decide +kernel
theorem d9_41 : decode jdk_42_method_149_code 41 = .ok (.aload_n 0, 1) := by decide +kernel
theorem d9_42 : decode jdk_42_method_149_code 42 = .ok (.aload 5, 2) := by decide +kernel
theorem d9_44 : decode jdk_42_method_149_code 44 = .ok (.iload_n 3, 1) := by decide +kernel
theorem d9_45 : decode jdk_42_method_149_code 45 = .ok (.invokestatic 47, 3) := by decide +kernel
theorem pd_5 : parseMethodDescriptor "([BI)B" = some ⟨[(.array .byte), .int], some .byte⟩ := by decide +kernel
theorem d9_48 : decode jdk_42_method_149_code 48 = .ok (.putfield 15, 3) := by decide +kernel
theorem d9_51 : decode jdk_42_method_149_code 51 = .ok (.aload_n 0, 1) := by decide +kernel
theorem d9_52 : decode jdk_42_method_149_code 52 = .ok (.aload 5, 2) := by decide +kernel
theorem d9_54 : decode jdk_42_method_149_code 54 = .ok (.putfield 9, 3) := by decide +kernel
theorem d9_57 : decode jdk_42_method_149_code 57 = .ok (.return_, 1) := by decide +kernel
theorem ef_rmSJ (m : MethodId) (x0 : Addr) (x1 : Addr) (x2 : Int32) (x3 : Int32) : entryFrame m #[(.ref x0), (.ref x1), (.int x2), (.int x3), .null] 6 = mkF m 0 #[.val (.ref x0), .val (.ref x1), .val (.int x2), .val (.int x3), .val .null, .unset] [] := by first | (simp [entryFrame, mkF, argsToLocals, Value.category]; done) | rfl
def QSJ (Z : State) (a0r : Addr) (ca : Addr) (kc : ClassId) (ch : Int32) (cs : Int32) (h0 : Heap) (n0 : Nat) (v : Option Value) (h : Heap) (L : List Loc) : Prop := v = none ∧ Fr n0 L ∧ Keep h0 h [a0r] ∧ Exa Z h a0r "java/lang/String"
set_option maxRecDepth 65536 in
set_option maxHeartbeats 40000000 in
theorem rmSJ (l : Launch) (Z : State) (a0 : Array Value) (hw : ∀ d ∈ tables_1, d.before a0 Z = true) (ws : List Jvm.Cond) (a0r : Addr) (ca : Addr) (kc : ClassId) (ch : Int32) (cs : Int32) (h0 : Heap) (n0 : Nat) (O0 : Old Z n0 h0) (Er : Exa Z h0 a0r "java/lang/String") (gr : n0 ≤ a0r) (Fr_value : Fld Z h0 a0r "java/lang/String" "value" "[B" .null) (Fr_coder : Fld Z h0 a0r "java/lang/String" "coder" "B" (.int (0 : Int32))) (Vc : Arv Z h0 ca kc .char (1 : Int32) [.int ch] (.int (0 : Int32))) (hch : ¬ (255 : Int32) < ch) (Sc : Sta Z h0 "java/lang/String" "COMPACT_STRINGS" "Z" (.int cs)) (hcs : ¬ cs = (0 : Int32)) :
    MetFree l (⟨"java/lang/String", "<init>", "([CIILjava/lang/Void;)V"⟩ : MethodName) (head1 (Jvm.Cond.code (⟨"java/lang/String", "<init>", "([CIILjava/lang/Void;)V"⟩ : MethodName) jdk_42_method_149_code 6 none :: ws) ({ frames := 2, cells := 1, slots := 1, locals := 35 } : Room)) (fun a U => a = #[(.ref a0r), (.ref ca), (.int (0 : Int32)), (.int (1 : Int32)), .null] ∧ Z.Warmed39 U.vm ∧ U.heap = h0) (fun _ _ _ _ _ => True) (fun _ U o U' => ∃ v L, o = .returned v ∧ QSJ Z a0r ca kc ch cs h0 n0 v U'.heap L ∧ FrameEnd U o U' L ({ frames := 2, cells := 1, slots := 1, locals := 35 } : Room).cells ({ frames := 2, cells := 1, slots := 1, locals := 35 } : Room).slots) := by
  refine MetFree.of_bodySF (plainFor_of_name pn_String) hisR ?_
  intro p e s m args below meth c s₁ Bd hml0 hP hK
  obtain ⟨rfl, hZ, hh⟩ := hP
  have hx := Bd.exec
  have hby := Bd.bytes
  have hlk : meth.locks = false := BodyLoose.notSynchronized Bd
  have hml : c.maxLocals = 6 := hml0
  have hown : s.vm.findClass "java/lang/String" = some m.cls := findClass_of_methodNamed Bd.named
  have hnm := (name_of_methodNamed Bd.named Bd.method).1
  have X0 : Stand p l e ({ frames := 2, cells := 1, slots := 1, locals := 35 } : Room) s m #[(.ref a0r), (.ref ca), (.int (0 : Int32)), (.int (1 : Int32)), .null] below meth c s₁ [] 0 0 := Stand.of_body Bd
  have e0 : s₁.heap = h0 := by rw [← hh, Bd.state]; rfl
  have N0 := Fr.nil n0
  show Goes p e below s (QSJ Z a0r ca kc ch cs h0 n0) ({ frames := 2, cells := 1, slots := 1, locals := 35 } : Room).cells ({ frames := 2, cells := 1, slots := 1, locals := 35 } : Room).slots (s₁.setTop (entryFrame m #[(.ref a0r), (.ref ca), (.int (0 : Int32)), (.int (1 : Int32)), .null] 6))
  refine Goes.enter (g' := (mkF m 0 #[.val (.ref a0r), .val (.ref ca), .val (.int (0 : Int32)), .val (.int (1 : Int32)), .val .null, .unset] [])) (ef_rmSJ m a0r ca ((0 : Int32)) ((1 : Int32))) ?_
  refine Goes.step (B := s₁.setTop (mkF m 1 #[.val (.ref a0r), .val (.ref ca), .val (.int (0 : Int32)), .val (.int (1 : Int32)), .val .null, .unset] [(.ref a0r)])) (fun _ k => XS.aloadN X0.here hx rfl (hb hby d9_0) rfl rfl k) ?_
  obtain ⟨T1, X1, e1, st1⟩ := initO X0 hx hZ hown (hw _ (List.mem_of_getElem? (i := 75) rfl)) (hw _ (List.mem_of_getElem? (i := 76) rfl)) (hw _ (List.mem_of_getElem? (i := 77) rfl)) e0 (g := (mkF m 1 #[.val (.ref a0r), .val (.ref ca), .val (.int (0 : Int32)), .val (.int (1 : Int32)), .val .null, .unset] [(.ref a0r)])) rfl (by rw [hml]; rfl) rfl (hb hby d9_1) (by decide) (W := 0) (by show 2 * 0 + _ ≤ _; exact Nat.le_of_eq rfl) (by decide)
  refine Goes.step (B := T1.setTop (mkF m 4 #[.val (.ref a0r), .val (.ref ca), .val (.int (0 : Int32)), .val (.int (1 : Int32)), .val .null, .unset] [])) st1 ?_
  refine Goes.step (B := T1.setTop (mkF m 5 #[.val (.ref a0r), .val (.ref ca), .val (.int (0 : Int32)), .val (.int (1 : Int32)), .val .null, .unset] [(.int (1 : Int32))])) (fun _ k => XS.iloadN X1.here hx rfl (hb hby d9_4) rfl k) ?_
  refine Goes.step (B := T1.setTop (mkF m 27 #[.val (.ref a0r), .val (.ref ca), .val (.int (0 : Int32)), .val (.int (1 : Int32)), .val .null, .unset] [])) (fun _ k => XS.ifYes X1.here hx rfl (pc0 := 5) (pc' := 27) rfl (hb hby d9_5) rfl ((if0 _ _).trans (feq (by decide)).2) (by decide) (by decide) k) ?_
  obtain ⟨T2, X2, e2, st2⟩ := getS2 X1 hx hZ hown (host := "") (Or.inl (hw _ (List.mem_of_getElem? (i := 45) rfl))) Via.refl e1 Sc (g := (mkF m 27 #[.val (.ref a0r), .val (.ref ca), .val (.int (0 : Int32)), .val (.int (1 : Int32)), .val .null, .unset] [])) rfl (hb hby d9_27)
  refine Goes.step (B := T2.setTop (mkF m 30 #[.val (.ref a0r), .val (.ref ca), .val (.int (0 : Int32)), .val (.int (1 : Int32)), .val .null, .unset] [(.int cs)])) st2 ?_
  refine Goes.step (B := T2.setTop (mkF m 33 #[.val (.ref a0r), .val (.ref ca), .val (.int (0 : Int32)), .val (.int (1 : Int32)), .val .null, .unset] [])) (fun _ k => XS.ifNo X2.here hx rfl (hb hby d9_30) rfl ((if0 _ _).trans (feq hcs).1) k) ?_
  refine Goes.step (B := T2.setTop (mkF m 34 #[.val (.ref a0r), .val (.ref ca), .val (.int (0 : Int32)), .val (.int (1 : Int32)), .val .null, .unset] [(.ref ca)])) (fun _ k => XS.aloadN X2.here hx rfl (hb hby d9_33) rfl rfl k) ?_
  refine Goes.step (B := T2.setTop (mkF m 35 #[.val (.ref a0r), .val (.ref ca), .val (.int (0 : Int32)), .val (.int (1 : Int32)), .val .null, .unset] [(.int (0 : Int32)), (.ref ca)])) (fun _ k => XS.iloadN X2.here hx rfl (hb hby d9_34) rfl k) ?_
  refine Goes.step (B := T2.setTop (mkF m 36 #[.val (.ref a0r), .val (.ref ca), .val (.int (0 : Int32)), .val (.int (1 : Int32)), .val .null, .unset] [(.int (1 : Int32)), (.int (0 : Int32)), (.ref ca)])) (fun _ k => XS.iloadN X2.here hx rfl (hb hby d9_35) rfl k) ?_
  have lt_a0r_3 := Er.lt
  have lt_ca_3 := Vc.lt
  obtain ⟨_, _, ⟨T3, L3, k3, n3⟩, -, X3, ⟨Lc3, hQ3, l3, y3, z3⟩, st3⟩ := Jvm.LawKit.callS X2 hx (y := (⟨"java/lang/StringUTF16", "compress", "([CII)[B"⟩ : MethodName)) hown (mvT hZ (hw _ (List.mem_of_getElem? (i := 78) rfl))) (mvT hZ (hw _ (List.mem_of_getElem? (i := 79) rfl))) (mvT hZ (hw _ (List.mem_of_getElem? (i := 80) rfl))) (mvT hZ (hw _ (List.mem_of_getElem? (i := 81) rfl))) (by decide) (backOf (W := 0) (rmC3 l Z a0 hw [] ca kc ch h0 n0 O0 Vc hch) hZ (hw _ (List.mem_of_getElem? (i := 81) rfl)) (hw _ (List.mem_of_getElem? (i := 80) rfl)) (by decide) (by decide)) (g := (mkF m 36 #[.val (.ref a0r), .val (.ref ca), .val (.int (0 : Int32)), .val (.int (1 : Int32)), .val .null, .unset] [(.int (1 : Int32)), (.int (0 : Int32)), (.ref ca)])) rfl (by rw [hml]; rfl) (argsL := [(.ref ca), (.int (0 : Int32)), (.int (1 : Int32))]) (rest := []) (lenOf pd_4 rfl) rfl (by show 2 * 0 + _ ≤ _; exact Nat.le_of_eq rfl) (hb hby d9_36) (fun _ _ => ⟨rfl, e2, (by decide : 0 + 1 ≤ _), (by decide : 0 + 1 ≤ _)⟩)
  dsimp only [Pt.U, Pt.locs, Pt.cells, Pt.slots] at X3 l3 y3 z3 st3 hQ3
  subst l3 y3 z3
  obtain ⟨fb3, fk3, rfl, Nq3, Kp3, gb3, sb3, Vb3⟩ := hQ3
  have ne_a0r_fb3 : a0r ≠ fb3 := Nat.ne_of_lt (Nat.lt_of_lt_of_le lt_a0r_3 sb3)
  have ne_ca_fb3 : ca ≠ fb3 := Nat.ne_of_lt (Nat.lt_of_lt_of_le lt_ca_3 sb3)
  have O_3 := O0.keep Kp3 all0
  have K_3 := (Keep.refl h0 [a0r]).trans Kp3 all0
  have N3 := Fr.app N0 Nq3
  refine Goes.step (B := T3.setTop (mkF m 39 #[.val (.ref a0r), .val (.ref ca), .val (.int (0 : Int32)), .val (.int (1 : Int32)), .val .null, .unset] [(.ref fb3)])) st3 ?_
  refine Goes.step (B := T3.setTop (mkF m 41 #[.val (.ref a0r), .val (.ref ca), .val (.int (0 : Int32)), .val (.int (1 : Int32)), .val .null, .val (.ref fb3)] [])) (fun _ k => XS.astore X3.here hx rfl (hb hby d9_39) rfl rfl (l' := #[.val (.ref a0r), .val (.ref ca), .val (.int (0 : Int32)), .val (.int (1 : Int32)), .val .null, .val (.ref fb3)]) rfl k) ?_
  refine Goes.step (B := T3.setTop (mkF m 42 #[.val (.ref a0r), .val (.ref ca), .val (.int (0 : Int32)), .val (.int (1 : Int32)), .val .null, .val (.ref fb3)] [(.ref a0r)])) (fun _ k => XS.aloadN X3.here hx rfl (hb hby d9_41) rfl rfl k) ?_
  refine Goes.step (B := T3.setTop (mkF m 44 #[.val (.ref a0r), .val (.ref ca), .val (.int (0 : Int32)), .val (.int (1 : Int32)), .val .null, .val (.ref fb3)] [(.ref fb3), (.ref a0r)])) (fun _ k => XS.aload X3.here hx rfl (hb hby d9_42) rfl rfl k) ?_
  refine Goes.step (B := T3.setTop (mkF m 45 #[.val (.ref a0r), .val (.ref ca), .val (.int (0 : Int32)), .val (.int (1 : Int32)), .val .null, .val (.ref fb3)] [(.int (1 : Int32)), (.ref fb3), (.ref a0r)])) (fun _ k => XS.iloadN X3.here hx rfl (hb hby d9_44) rfl k) ?_
  obtain ⟨_, _, ⟨T4, L4, k4, n4⟩, -, X4, ⟨Lc4, hQ4, l4, y4, z4⟩, st4⟩ := Jvm.LawKit.callS X3 hx (y := (⟨"java/lang/StringUTF16", "coderFromArrayLen", "([BI)B"⟩ : MethodName)) hown (mvT hZ (hw _ (List.mem_of_getElem? (i := 85) rfl))) (mvT hZ (hw _ (List.mem_of_getElem? (i := 86) rfl))) (mvT hZ (hw _ (List.mem_of_getElem? (i := 80) rfl))) (mvT hZ (hw _ (List.mem_of_getElem? (i := 87) rfl))) (by decide) (backOf (W := 1) (rm13 l Z a0 hw [] fb3 fk3 (nar .byte (ch.toInt8.toInt32)) T3.heap n0 O_3 Vb3) hZ (hw _ (List.mem_of_getElem? (i := 87) rfl)) (hw _ (List.mem_of_getElem? (i := 80) rfl)) (by decide) (by decide)) (g := (mkF m 45 #[.val (.ref a0r), .val (.ref ca), .val (.int (0 : Int32)), .val (.int (1 : Int32)), .val .null, .val (.ref fb3)] [(.int (1 : Int32)), (.ref fb3), (.ref a0r)])) rfl (by rw [hml]; rfl) (argsL := [(.ref fb3), (.int (1 : Int32))]) (rest := [(.ref a0r)]) (lenOf pd_5 rfl) rfl (by show 2 * 0 + _ ≤ _; exact Nat.le_of_eq rfl) (hb hby d9_45) (fun _ _ => ⟨rfl, rfl, (by decide : 1 + 0 ≤ _), (by decide : 1 + 0 ≤ _)⟩)
  dsimp only [Pt.U, Pt.locs, Pt.cells, Pt.slots] at X4 l4 y4 z4 st4 hQ4
  subst l4 y4 z4
  obtain ⟨rfl, Nq4, eh4⟩ := hQ4
  have N4 := Fr.app N3 Nq4
  refine Goes.step (B := T4.setTop (mkF m 48 #[.val (.ref a0r), .val (.ref ca), .val (.int (0 : Int32)), .val (.int (1 : Int32)), .val .null, .val (.ref fb3)] [(.int (0 : Int32)), (.ref a0r)])) st4 ?_
  have f5 := (Er.keep Kp3)
  have f6 := (Fr_coder.keep Kp3 nin0)
  obtain ⟨T7, h7, X7, e7, W7, st7⟩ := putFN X4 hx hZ hown (hw _ (List.mem_of_getElem? (i := 46) rfl)) Via.refl eh4 f6 f5 (Or.inr ⟨(hw _ (List.mem_of_getElem? (i := 36) rfl)), rfl, hnm⟩) (hw _ (List.mem_of_getElem? (i := 33) rfl)) (ty := .byte) (v' := (.int (0 : Int32))) (by decide) rfl (by decide) (g := (mkF m 48 #[.val (.ref a0r), .val (.ref ca), .val (.int (0 : Int32)), .val (.int (1 : Int32)), .val .null, .val (.ref fb3)] [(.int (0 : Int32)), (.ref a0r)])) rfl rfl (hb hby d9_48)
  have Fw7 := f6.same W7
  have N7 := Fr.snoc X7 N4 gr
  have O_7 := O_3.wr W7 gr
  have K_7 := K_3.wr W7 (Or.inl (List.mem_of_getElem? (i := 0) rfl))
  refine Goes.step (B := T7.setTop (mkF m 51 #[.val (.ref a0r), .val (.ref ca), .val (.int (0 : Int32)), .val (.int (1 : Int32)), .val .null, .val (.ref fb3)] [])) st7 ?_
  refine Goes.step (B := T7.setTop (mkF m 52 #[.val (.ref a0r), .val (.ref ca), .val (.int (0 : Int32)), .val (.int (1 : Int32)), .val .null, .val (.ref fb3)] [(.ref a0r)])) (fun _ k => XS.aloadN X7.here hx rfl (hb hby d9_51) rfl rfl k) ?_
  refine Goes.step (B := T7.setTop (mkF m 54 #[.val (.ref a0r), .val (.ref ca), .val (.int (0 : Int32)), .val (.int (1 : Int32)), .val .null, .val (.ref fb3)] [(.ref fb3), (.ref a0r)])) (fun _ k => XS.aload X7.here hx rfl (hb hby d9_52) rfl rfl k) ?_
  have f8 := (f5.wr W7)
  have f9 := ((Fr_value.keep Kp3 nin0).other W7 (Or.inr (slot_ne (Or.inr (hw _ (List.mem_of_getElem? (i := 35) rfl))) (Or.inr (hw _ (List.mem_of_getElem? (i := 36) rfl))) (by decide) (t := (.array .byte)) (t' := .byte) (by decide) (by decide))))
  obtain ⟨T10, h10, X10, e10, W10, st10⟩ := putF X7 hx hZ hown (host := "") (Or.inl (hw _ (List.mem_of_getElem? (i := 47) rfl))) Via.refl e7 f9 f8 (Or.inr ⟨(hw _ (List.mem_of_getElem? (i := 35) rfl)), rfl, hnm⟩) (hw _ (List.mem_of_getElem? (i := 33) rfl)) (ty := (.array .byte)) (by decide) rfl rfl (g := (mkF m 54 #[.val (.ref a0r), .val (.ref ca), .val (.int (0 : Int32)), .val (.int (1 : Int32)), .val .null, .val (.ref fb3)] [(.ref fb3), (.ref a0r)])) rfl rfl (hb hby d9_54)
  have Fw10 := f9.same W10
  have N10 := Fr.snoc X10 N7 gr
  have O_10 := O_7.wr W10 gr
  have K_10 := K_7.wr W10 (Or.inl (List.mem_of_getElem? (i := 0) rfl))
  refine Goes.step (B := T10.setTop (mkF m 57 #[.val (.ref a0r), .val (.ref ca), .val (.int (0 : Int32)), .val (.int (1 : Int32)), .val .null, .val (.ref fb3)] [])) st10 ?_
  have f11 := (f8.wr W10)
  exact Goes.retV X10 hx e10 Bd.returns hlk (hb hby d9_57) (by decide) (by decide) (⟨rfl, N10, K_10, f11⟩)
theorem d8_0 : decode jdk_42_method_3_code 0 = .ok (.aload_n 0, 1) := by decide +kernel
theorem d8_1 : decode jdk_42_method_3_code 1 = .ok (.aload_n 1, 1) := by decide +kernel
theorem d8_2 : decode jdk_42_method_3_code 2 = .ok (.iconst 0, 1) := by decide +kernel
theorem d8_3 : decode jdk_42_method_3_code 3 = .ok (.aload_n 1, 1) := by decide +kernel
theorem d8_4 : decode jdk_42_method_3_code 4 = .ok (.arraylength, 1) := by decide +kernel
theorem d8_5 : decode jdk_42_method_3_code 5 = .ok (.aconst_null, 1) := by decide +kernel
theorem d8_6 : decode jdk_42_method_3_code 6 = .ok (.invokespecial 27, 3) := by decide +kernel
theorem pd_6 : parseMethodDescriptor "([CIILjava/lang/Void;)V" = some ⟨[(.array .char), .int, .int, (.object "java/lang/Void")], none⟩ := by decide +kernel
theorem d8_9 : decode jdk_42_method_3_code 9 = .ok (.return_, 1) := by decide +kernel
theorem ef_rmSI (m : MethodId) (x0 : Addr) (x1 : Addr) : entryFrame m #[(.ref x0), (.ref x1)] 2 = mkF m 0 #[.val (.ref x0), .val (.ref x1)] [] := by first | (simp [entryFrame, mkF, argsToLocals, Value.category]; done) | rfl
def QSI (Z : State) (a0r : Addr) (ca : Addr) (kc : ClassId) (ch : Int32) (cs : Int32) (h0 : Heap) (n0 : Nat) (v : Option Value) (h : Heap) (L : List Loc) : Prop := v = none ∧ Fr n0 L ∧ Keep h0 h [a0r] ∧ Exa Z h a0r "java/lang/String"
set_option maxRecDepth 65536 in
set_option maxHeartbeats 40000000 in
theorem rmSI (l : Launch) (Z : State) (a0 : Array Value) (hw : ∀ d ∈ tables_1, d.before a0 Z = true) (ws : List Jvm.Cond) (a0r : Addr) (ca : Addr) (kc : ClassId) (ch : Int32) (cs : Int32) (h0 : Heap) (n0 : Nat) (O0 : Old Z n0 h0) (Er : Exa Z h0 a0r "java/lang/String") (gr : n0 ≤ a0r) (Fr_value : Fld Z h0 a0r "java/lang/String" "value" "[B" .null) (Fr_coder : Fld Z h0 a0r "java/lang/String" "coder" "B" (.int (0 : Int32))) (Vc : Arv Z h0 ca kc .char (1 : Int32) [.int ch] (.int (0 : Int32))) (hch : ¬ (255 : Int32) < ch) (Sc : Sta Z h0 "java/lang/String" "COMPACT_STRINGS" "Z" (.int cs)) (hcs : ¬ cs = (0 : Int32)) :
    MetFree l (⟨"java/lang/String", "<init>", "([C)V"⟩ : MethodName) (head1 (Jvm.Cond.code (⟨"java/lang/String", "<init>", "([C)V"⟩ : MethodName) jdk_42_method_3_code 2 none :: ws) ({ frames := 3, cells := 1, slots := 1, locals := 52 } : Room)) (fun a U => a = #[(.ref a0r), (.ref ca)] ∧ Z.Warmed39 U.vm ∧ U.heap = h0) (fun _ _ _ _ _ => True) (fun _ U o U' => ∃ v L, o = .returned v ∧ QSI Z a0r ca kc ch cs h0 n0 v U'.heap L ∧ FrameEnd U o U' L ({ frames := 3, cells := 1, slots := 1, locals := 52 } : Room).cells ({ frames := 3, cells := 1, slots := 1, locals := 52 } : Room).slots) := by
  refine MetFree.of_bodySF (plainFor_of_name pn_String) hisR ?_
  intro p e s m args below meth c s₁ Bd hml0 hP hK
  obtain ⟨rfl, hZ, hh⟩ := hP
  have hx := Bd.exec
  have hby := Bd.bytes
  have hlk : meth.locks = false := BodyLoose.notSynchronized Bd
  have hml : c.maxLocals = 2 := hml0
  have hown : s.vm.findClass "java/lang/String" = some m.cls := findClass_of_methodNamed Bd.named
  have hnm := (name_of_methodNamed Bd.named Bd.method).1
  have X0 : Stand p l e ({ frames := 3, cells := 1, slots := 1, locals := 52 } : Room) s m #[(.ref a0r), (.ref ca)] below meth c s₁ [] 0 0 := Stand.of_body Bd
  have e0 : s₁.heap = h0 := by rw [← hh, Bd.state]; rfl
  have N0 := Fr.nil n0
  show Goes p e below s (QSI Z a0r ca kc ch cs h0 n0) ({ frames := 3, cells := 1, slots := 1, locals := 52 } : Room).cells ({ frames := 3, cells := 1, slots := 1, locals := 52 } : Room).slots (s₁.setTop (entryFrame m #[(.ref a0r), (.ref ca)] 2))
  refine Goes.enter (g' := (mkF m 0 #[.val (.ref a0r), .val (.ref ca)] [])) (ef_rmSI m a0r ca) ?_
  refine Goes.step (B := s₁.setTop (mkF m 1 #[.val (.ref a0r), .val (.ref ca)] [(.ref a0r)])) (fun _ k => XS.aloadN X0.here hx rfl (hb hby d8_0) rfl rfl k) ?_
  refine Goes.step (B := s₁.setTop (mkF m 2 #[.val (.ref a0r), .val (.ref ca)] [(.ref ca), (.ref a0r)])) (fun _ k => XS.aloadN X0.here hx rfl (hb hby d8_1) rfl rfl k) ?_
  refine Goes.step (B := s₁.setTop (mkF m 3 #[.val (.ref a0r), .val (.ref ca)] [(.int (0 : Int32)), (.ref ca), (.ref a0r)])) (fun _ k => XS.iconst X0.here hx rfl (hb hby d8_2) k) ?_
  refine Goes.step (B := s₁.setTop (mkF m 4 #[.val (.ref a0r), .val (.ref ca)] [(.ref ca), (.int (0 : Int32)), (.ref ca), (.ref a0r)])) (fun _ k => XS.aloadN X0.here hx rfl (hb hby d8_3) rfl rfl k) ?_
  obtain ⟨c1, Ar1, -, Sz1, Nn1, -, -⟩ := id Vc
  have len1 := X0.arraylength hx (by rw [e0]; exact Ar1.1) (State.isArrayOf_alike hZ.alike Ar1.2.1) (g := (mkF m 4 #[.val (.ref a0r), .val (.ref ca)] [(.ref ca), (.int (0 : Int32)), (.ref ca), (.ref a0r)])) rfl rfl (hb hby d8_4)
  rw [len_of Sz1 Nn1] at len1
  refine Goes.step (B := s₁.setTop (mkF m 5 #[.val (.ref a0r), .val (.ref ca)] [(.int (1 : Int32)), (.int (0 : Int32)), (.ref ca), (.ref a0r)])) len1 ?_
  refine Goes.step (B := s₁.setTop (mkF m 6 #[.val (.ref a0r), .val (.ref ca)] [.null, (.int (1 : Int32)), (.int (0 : Int32)), (.ref ca), (.ref a0r)])) (fun _ k => XS.aconstNull X0.here hx rfl (hb hby d8_5) k) ?_
  obtain ⟨_, _, ⟨T2, L2, k2, n2⟩, -, X2, ⟨Lc2, hQ2, l2, y2, z2⟩, st2⟩ := X0.specialBack hx (y := (⟨"java/lang/String", "<init>", "([CIILjava/lang/Void;)V"⟩ : MethodName)) rfl hown (mvT hZ (hw _ (List.mem_of_getElem? (i := 72) rfl))) (mvT hZ (hw _ (List.mem_of_getElem? (i := 73) rfl))) (mvT hZ (hw _ (List.mem_of_getElem? (i := 74) rfl))) (by decide) (backOf (W := 0) (rmSJ l Z a0 hw [] a0r ca kc ch cs h0 n0 O0 Er gr Fr_value Fr_coder Vc hch Sc hcs) hZ (hw _ (List.mem_of_getElem? (i := 74) rfl)) (hw _ (List.mem_of_getElem? (i := 32) rfl)) (by decide) (by decide)) (g := (mkF m 6 #[.val (.ref a0r), .val (.ref ca)] [.null, (.int (1 : Int32)), (.int (0 : Int32)), (.ref ca), (.ref a0r)])) rfl (by rw [hml]; rfl) (Steps.refl _) (a := a0r) (argsL := [(.ref ca), (.int (0 : Int32)), (.int (1 : Int32)), .null]) (rest := []) (lenOf pd_6 rfl) rfl (by show 2 * 0 + _ ≤ _; exact Nat.le_of_eq rfl) (hb hby d8_6) (fun _ _ => ⟨rfl, e0, (by decide : 0 + 1 ≤ _), (by decide : 0 + 1 ≤ _)⟩)
  dsimp only [Pt.U, Pt.locs, Pt.cells, Pt.slots] at X2 l2 y2 z2 st2 hQ2
  subst l2 y2 z2
  obtain ⟨rfl, Nq2, Kp2, Ex2⟩ := hQ2
  have O_2 := O0.keep Kp2 (allS gr all0)
  have K_2 := (Keep.refl h0 [a0r]).trans Kp2 (allS (P := fun x => x ∈ _ ∨ _) (Or.inl (List.mem_of_getElem? (i := 0) rfl)) all0)
  have N2 := Fr.app N0 Nq2
  refine Goes.via (B := T2.setTop (mkF m 9 #[.val (.ref a0r), .val (.ref ca)] [])) st2 ?_
  exact Goes.retV X2 hx rfl Bd.returns hlk (hb hby d8_9) (by decide) (by decide) (⟨rfl, N2, K_2, Ex2⟩)
theorem pd_7 : parseMethodDescriptor "()[Ljava/lang/String;" = some ⟨[], some (.array (.object "java/lang/String"))⟩ := by decide +kernel
theorem pd_8 : parseMethodDescriptor "([Ljava/lang/String;)Z" = some ⟨[(.array (.object "java/lang/String"))], some .boolean⟩ := by decide +kernel
theorem pd_9 : parseMethodDescriptor "()Ljava/lang/String;" = some ⟨[], some (.object "java/lang/String")⟩ := by decide +kernel
theorem pd_10 : parseMethodDescriptor "(Ljava/lang/String;)Lcom/example/gridclear/gridclear/image/ImageView$Side;" = some ⟨[(.object "java/lang/String")], some (.object "com/example/gridclear/gridclear/image/ImageView$Side")⟩ := by decide +kernel
theorem pd_11 : parseMethodDescriptor "([C)V" = some ⟨[(.array .char)], none⟩ := by decide +kernel
theorem ef_rm0 (m : MethodId) (x0 : Int32) (x1 : Int32) : entryFrame m #[(.int x0), (.int x1)] maxLocals = mkF m 0 #[.val (.int x0), .val (.int x1), .unset, .unset, .unset, .unset, .unset] [] := by first | (simp [entryFrame, mkF, argsToLocals, Value.category, maxLocals]; done) | rfl
def Q0 (Z : State) (i0 : Int32) (i1 : Int32) (a__VALUES : Addr) (a_FRONT_BW : Addr) (a_BACK_BW : Addr) (a_FRONT_GREY : Addr) (a_FRONT_BW_indicator : Addr) (a_BACK_BW_indicator : Addr) (a_FRONT_GREY_indicator : Addr) (a_FRONT_BW_indicator_value : Addr) (a_BACK_BW_indicator_value : Addr) (a_FRONT_GREY_indicator_value : Addr) (k__VALUES : ClassId) (k_FRONT_BW_indicator_value : ClassId) (k_BACK_BW_indicator_value : ClassId) (k_FRONT_GREY_indicator_value : ClassId) (cs : Int32) (h0 : Heap) (n0 : Nat) (v : Option Value) (h : Heap) (L : List Loc) : Prop := v = some (.int 1) ∧ Fr n0 L
set_option maxRecDepth 65536 in
set_option maxHeartbeats 40000000 in
theorem rm0 (l : Launch) (Z : State) (a0 : Array Value) (hw : ∀ d ∈ tables_1, d.before a0 Z = true) (ws : List Jvm.Cond) (i0 : Int32) (i1 : Int32) (a__VALUES : Addr) (a_FRONT_BW : Addr) (a_BACK_BW : Addr) (a_FRONT_GREY : Addr) (a_FRONT_BW_indicator : Addr) (a_BACK_BW_indicator : Addr) (a_FRONT_GREY_indicator : Addr) (a_FRONT_BW_indicator_value : Addr) (a_BACK_BW_indicator_value : Addr) (a_FRONT_GREY_indicator_value : Addr) (k__VALUES : ClassId) (k_FRONT_BW_indicator_value : ClassId) (k_BACK_BW_indicator_value : ClassId) (k_FRONT_GREY_indicator_value : ClassId) (cs : Int32) (h0 : Heap) (n0 : Nat) (O0 : Old Z n0 h0) (FS : OwnSt Z a__VALUES a_FRONT_BW a_BACK_BW a_FRONT_GREY a_FRONT_BW_indicator a_BACK_BW_indicator a_FRONT_GREY_indicator a_FRONT_BW_indicator_value a_BACK_BW_indicator_value a_FRONT_GREY_indicator_value k__VALUES k_FRONT_BW_indicator_value k_BACK_BW_indicator_value k_FRONT_GREY_indicator_value cs) :
    MetFree l x (head1 (Jvm.Cond.code x code maxLocals ret :: ws) room_1) (fun a U => a = #[(.int i0), (.int i1)] ∧ Z.Warmed39 U.vm ∧ U.heap = h0 ∧ CHv Z own_EL U.vm h0) (fun _ _ _ _ _ => True) (fun _ U o U' => ∃ v L, o = .returned v ∧ Q0 Z i0 i1 a__VALUES a_FRONT_BW a_BACK_BW a_FRONT_GREY a_FRONT_BW_indicator a_BACK_BW_indicator a_FRONT_GREY_indicator a_FRONT_BW_indicator_value a_BACK_BW_indicator_value a_FRONT_GREY_indicator_value k__VALUES k_FRONT_BW_indicator_value k_BACK_BW_indicator_value k_FRONT_GREY_indicator_value cs h0 n0 v U'.heap L ∧ ReturnedEndW U o U' L room_1.cells room_1.slots) := by
  refine MetFree.of_bodySF (plainFor_of_name pn_SideIndicatorsPinLaw) hisR ?_
  intro p e s m args below meth c s₁ Bd hml0 hP hK
  obtain ⟨rfl, hZ, hh, hH0⟩ := hP
  have hx := Bd.exec
  have hby := Bd.bytes
  have hlk : meth.locks = false := BodyLoose.notSynchronized Bd
  have hml : c.maxLocals = 7 := hml0
  have hown : s.vm.findClass "com/example/gridclear/gridclear/image/SideIndicatorsPinLaw" = some m.cls := findClass_of_methodNamed Bd.named
  have hnm := (name_of_methodNamed Bd.named Bd.method).1
  have X0 : Stand p l e room_1 (s.setVm s.vm) m #[(.int i0), (.int i1)] below meth c s₁ [] 0 0 := Stand.of_body Bd
  have e0 : s₁.heap = h0 := by rw [← hh, Bd.state]; rfl
  have N0 := Fr.nil n0
  have hS0 : s.Since s.vm h0.size := (State.WarmedH.refl s).since _
  show GoesW p e below s (Q0 Z i0 i1 a__VALUES a_FRONT_BW a_BACK_BW a_FRONT_GREY a_FRONT_BW_indicator a_BACK_BW_indicator a_FRONT_GREY_indicator a_FRONT_BW_indicator_value a_BACK_BW_indicator_value a_FRONT_GREY_indicator_value k__VALUES k_FRONT_BW_indicator_value k_BACK_BW_indicator_value k_FRONT_GREY_indicator_value cs h0 n0) room_1.cells room_1.slots (s₁.setTop (entryFrame m #[(.int i0), (.int i1)] maxLocals))
  refine GoesW.enter (g' := (mkF m 0 #[.val (.int i0), .val (.int i1), .unset, .unset, .unset, .unset, .unset] [])) (ef_rm0 m i0 i1) ?_
  have FS0 := FS
  obtain ⟨S__VALUES, E__VALUES, S_FRONT_BW, E_FRONT_BW, S_BACK_BW, E_BACK_BW, S_FRONT_GREY, E_FRONT_GREY, F_FRONT_BW_indicator, E_FRONT_BW_indicator, F_BACK_BW_indicator, E_BACK_BW_indicator, F_FRONT_GREY_indicator, E_FRONT_GREY_indicator, F_FRONT_BW_indicator_coder, F_FRONT_BW_indicator_value, F_BACK_BW_indicator_coder, F_BACK_BW_indicator_value, F_FRONT_GREY_indicator_coder, F_FRONT_GREY_indicator_value, ne_a_FRONT_BW_indicator_a_FRONT_GREY_indicator, ne_a_BACK_BW_indicator_a_FRONT_GREY_indicator, ne_a_BACK_BW_indicator_a_FRONT_BW_indicator, V__VALUES, V_FRONT_BW_indicator_value, V_BACK_BW_indicator_value, V_FRONT_GREY_indicator_value, S_COMPACT_STRINGS, hcs⟩ := FS0
  have f2 := E__VALUES.ext O0.2
  have lt_a__VALUES_1 := f2.lt
  have f3 := E_FRONT_BW.ext O0.2
  have lt_a_FRONT_BW_1 := f3.lt
  have f4 := E_BACK_BW.ext O0.2
  have lt_a_BACK_BW_1 := f4.lt
  have f5 := E_FRONT_GREY.ext O0.2
  have lt_a_FRONT_GREY_1 := f5.lt
  have f6 := E_FRONT_BW_indicator.ext O0.2
  have lt_a_FRONT_BW_indicator_1 := f6.lt
  have f7 := E_BACK_BW_indicator.ext O0.2
  have lt_a_BACK_BW_indicator_1 := f7.lt
  have f8 := E_FRONT_GREY_indicator.ext O0.2
  have lt_a_FRONT_GREY_indicator_1 := f8.lt
  have f9 := V_FRONT_BW_indicator_value.ext O0.2
  have lt_a_FRONT_BW_indicator_value_1 := f9.lt
  have f10 := V_BACK_BW_indicator_value.ext O0.2
  have lt_a_BACK_BW_indicator_value_1 := f10.lt
  have f11 := V_FRONT_GREY_indicator_value.ext O0.2
  have lt_a_FRONT_GREY_indicator_value_1 := f11.lt
  obtain ⟨_, _, ⟨T1, L1, k1, n1⟩, -, X1, ⟨Lc1, hQ1, l1, y1, z1⟩, st1⟩ := Jvm.LawKit.callS X0 hx (y := (⟨"com/example/gridclear/gridclear/image/ImageView$Side", "indicators", "()[Ljava/lang/String;"⟩ : MethodName)) hown (mvT hZ (hw _ (List.mem_of_getElem? (i := 0) rfl))) (mvT hZ (hw _ (List.mem_of_getElem? (i := 1) rfl))) (mvT hZ (hw _ (List.mem_of_getElem? (i := 2) rfl))) (mvT hZ (hw _ (List.mem_of_getElem? (i := 3) rfl))) (by decide) (backOf (W := 0) (rm1 l Z a0 hw [] a__VALUES a_FRONT_BW a_BACK_BW a_FRONT_GREY a_FRONT_BW_indicator a_BACK_BW_indicator a_FRONT_GREY_indicator a_FRONT_BW_indicator_value a_BACK_BW_indicator_value a_FRONT_GREY_indicator_value k__VALUES k_FRONT_BW_indicator_value k_BACK_BW_indicator_value k_FRONT_GREY_indicator_value cs h0 n0 O0 FS) hZ (hw _ (List.mem_of_getElem? (i := 3) rfl)) (hw _ (List.mem_of_getElem? (i := 2) rfl)) (by decide) (by decide)) (g := (mkF m 0 #[.val (.int i0), .val (.int i1), .unset, .unset, .unset, .unset, .unset] [])) rfl (by rw [hml]; rfl) (argsL := []) (rest := []) (lenOf pd_7 rfl) rfl (by show 2 * 0 + _ ≤ _; exact Nat.le_of_eq rfl) (hb hby at_0) (fun _ _ => ⟨rfl, e0, (by decide : 0 + 2 ≤ _), (by decide : 0 + 6 ≤ _)⟩)
  dsimp only [Pt.U, Pt.locs, Pt.cells, Pt.slots] at X1 l1 y1 z1 st1 hQ1
  subst l1 y1 z1
  obtain ⟨fb1, fk1, rfl, Nq1, Kp1, gb1, sb1, Vb1, Ob1⟩ := hQ1
  have ne_a__VALUES_fb1 : a__VALUES ≠ fb1 := Nat.ne_of_lt (Nat.lt_of_lt_of_le lt_a__VALUES_1 sb1)
  have ne_a_FRONT_BW_fb1 : a_FRONT_BW ≠ fb1 := Nat.ne_of_lt (Nat.lt_of_lt_of_le lt_a_FRONT_BW_1 sb1)
  have ne_a_BACK_BW_fb1 : a_BACK_BW ≠ fb1 := Nat.ne_of_lt (Nat.lt_of_lt_of_le lt_a_BACK_BW_1 sb1)
  have ne_a_FRONT_GREY_fb1 : a_FRONT_GREY ≠ fb1 := Nat.ne_of_lt (Nat.lt_of_lt_of_le lt_a_FRONT_GREY_1 sb1)
  have ne_a_FRONT_BW_indicator_fb1 : a_FRONT_BW_indicator ≠ fb1 := Nat.ne_of_lt (Nat.lt_of_lt_of_le lt_a_FRONT_BW_indicator_1 sb1)
  have ne_a_BACK_BW_indicator_fb1 : a_BACK_BW_indicator ≠ fb1 := Nat.ne_of_lt (Nat.lt_of_lt_of_le lt_a_BACK_BW_indicator_1 sb1)
  have ne_a_FRONT_GREY_indicator_fb1 : a_FRONT_GREY_indicator ≠ fb1 := Nat.ne_of_lt (Nat.lt_of_lt_of_le lt_a_FRONT_GREY_indicator_1 sb1)
  have ne_a_FRONT_BW_indicator_value_fb1 : a_FRONT_BW_indicator_value ≠ fb1 := Nat.ne_of_lt (Nat.lt_of_lt_of_le lt_a_FRONT_BW_indicator_value_1 sb1)
  have ne_a_BACK_BW_indicator_value_fb1 : a_BACK_BW_indicator_value ≠ fb1 := Nat.ne_of_lt (Nat.lt_of_lt_of_le lt_a_BACK_BW_indicator_value_1 sb1)
  have ne_a_FRONT_GREY_indicator_value_fb1 : a_FRONT_GREY_indicator_value ≠ fb1 := Nat.ne_of_lt (Nat.lt_of_lt_of_le lt_a_FRONT_GREY_indicator_value_1 sb1)
  have CH12 := (CHr.refl hH0).trans (CHr.keep Kp1 sf0 (CHr.refl hH0).1)
  have O_1 := O0.keep Kp1 all0
  have N1 := Fr.app N0 Nq1
  refine GoesW.step (B := T1.setTop (mkF m 3 #[.val (.int i0), .val (.int i1), .unset, .unset, .unset, .unset, .unset] [(.ref fb1)])) st1 ?_
  refine GoesW.step (B := T1.setTop (mkF m 4 #[.val (.int i0), .val (.int i1), .val (.ref fb1), .unset, .unset, .unset, .unset] [])) (fun _ k => XS.astoreN X1.here hx rfl (hb hby at_3) rfl rfl (l' := #[.val (.int i0), .val (.int i1), .val (.ref fb1), .unset, .unset, .unset, .unset]) rfl k) ?_
  refine GoesW.step (B := T1.setTop (mkF m 5 #[.val (.int i0), .val (.int i1), .val (.ref fb1), .unset, .unset, .unset, .unset] [(.ref fb1)])) (fun _ k => XS.aloadN X1.here hx rfl (hb hby at_4) rfl rfl k) ?_
  obtain ⟨_, vw13, ⟨T13, L13, k13, n13⟩, -, Xr13, S213, sz13, ⟨Lc13, hQ13, l13, y13, z13, Hc13⟩, st13⟩ := callSS X1 hx (y := (⟨"com/example/gridclear/gridclear/image/SideIndicatorsPinLaw", "exact", "([Ljava/lang/String;)Z"⟩ : MethodName)) hown (mvT hZ (hw _ (List.mem_of_getElem? (i := 27) rfl))) (mvT hZ (hw _ (List.mem_of_getElem? (i := 28) rfl))) (mvT hZ (hw _ (List.mem_of_getElem? (i := 29) rfl))) (mvT hZ (hw _ (List.mem_of_getElem? (i := 30) rfl))) (by decide) (backOfSH (W := 0) (rm3 l Z a0 hw [] fb1 fk1 a__VALUES a_FRONT_BW a_BACK_BW a_FRONT_GREY a_FRONT_BW_indicator a_BACK_BW_indicator a_FRONT_GREY_indicator a_FRONT_BW_indicator_value a_BACK_BW_indicator_value a_FRONT_GREY_indicator_value k__VALUES k_FRONT_BW_indicator_value k_BACK_BW_indicator_value k_FRONT_GREY_indicator_value cs T1.heap n0 O_1 FS Vb1) hZ (hw _ (List.mem_of_getElem? (i := 30) rfl)) (hw _ (List.mem_of_getElem? (i := 29) rfl)) (by decide) (by decide) (own_EW hw) CH12.1) (g := (mkF m 5 #[.val (.int i0), .val (.int i1), .val (.ref fb1), .unset, .unset, .unset, .unset] [(.ref fb1)])) rfl (by rw [hml]; rfl) (argsL := [(.ref fb1)]) (rest := []) (lenOf pd_8 rfl) rfl (by show 2 * 0 + _ ≤ _; exact Nat.le_of_eq rfl) (hb hby at_5) (fun _ _ => ⟨rfl, rfl, (by decide : 2 + 6 ≤ _), (by decide : 6 + 112 ≤ _)⟩)
  dsimp only [Pt.U, Pt.locs, Pt.cells, Pt.slots] at Xr13 S213 sz13 l13 y13 z13 st13 hQ13 Hc13
  subst l13 y13 z13
  obtain ⟨X13, hS13, hZ13, hown13⟩ := rebS hS0 (by exact (Nat.le_trans (Nat.le_refl _) Kp1.1)) Xr13 S213 sz13 hZ hown
  have CHc13 := CH12.trans Hc13
  obtain ⟨rfl, Nq13, Kp13⟩ := hQ13
  have O_13 := O_1.keep Kp13 all0
  have N13 := Fr.app N1 Nq13
  refine GoesW.via (B := T13.setTop (mkF m 8 #[.val (.int i0), .val (.int i1), .val (.ref fb1), .unset, .unset, .unset, .unset] [(.int (1 : Int32))])) st13 ?_
  refine GoesW.step (B := T13.setTop (mkF m 13 #[.val (.int i0), .val (.int i1), .val (.ref fb1), .unset, .unset, .unset, .unset] [])) (fun _ k => XS.ifYes X13.here hx rfl (pc0 := 8) (pc' := 13) rfl (hb hby at_8) rfl ((if0 _ _).trans (feq (by decide)).2) (by decide) (by decide) k) ?_
  refine GoesW.step (B := T13.setTop (mkF m 14 #[.val (.int i0), .val (.int i1), .val (.ref fb1), .unset, .unset, .unset, .unset] [(.ref fb1)])) (fun _ k => XS.aloadN X13.here hx rfl (hb hby at_13) rfl rfl k) ?_
  refine GoesW.step (B := T13.setTop (mkF m 15 #[.val (.int i0), .val (.int i1), .val (.ref fb1), .unset, .unset, .unset, .unset] [(.int (0 : Int32)), (.ref fb1)])) (fun _ k => XS.iconst X13.here hx rfl (hb hby at_14) k) ?_
  have f14 := (Vb1.keep Kp13 nin0)
  obtain ⟨c15, Ar15, -, Sz15, Nn15, Hs15, -⟩ := id f14
  have hin15 : ¬ ((0 : Int32) < 0 ∨ c15.slots.size ≤ ((0 : Int32)).toNatClampNeg) := inb_of Sz15 ⟨by decide, by decide⟩
  refine GoesW.step (B := T13.setTop (mkF m 16 #[.val (.int i0), .val (.int i1), .val (.ref fb1), .unset, .unset, .unset, .unset] [(.ref a_FRONT_BW_indicator)])) (X13.aaload hx (j := (0 : Int32)) (v := (.ref a_FRONT_BW_indicator)) (by exact Ar15.1) (State.isArrayOf_alike hZ13.alike Ar15.2.1) rfl Ar15.2.2 hin15 (Has.at Hs15 hin15 rfl) (g := (mkF m 15 #[.val (.int i0), .val (.int i1), .val (.ref fb1), .unset, .unset, .unset, .unset] [(.int (0 : Int32)), (.ref fb1)])) rfl rfl (hb hby at_15)) ?_
  have f16 := S_FRONT_BW.ext O_13.2
  obtain ⟨T17, X17, e17, st17⟩ := getS2 X13 hx hZ13 hown13 (host := "") (Or.inl (hw _ (List.mem_of_getElem? (i := 54) rfl))) Via.refl rfl f16 (g := (mkF m 16 #[.val (.int i0), .val (.int i1), .val (.ref fb1), .unset, .unset, .unset, .unset] [(.ref a_FRONT_BW_indicator)])) rfl (hb hby at_16)
  refine GoesW.step (B := T17.setTop (mkF m 19 #[.val (.int i0), .val (.int i1), .val (.ref fb1), .unset, .unset, .unset, .unset] [(.ref a_FRONT_BW), (.ref a_FRONT_BW_indicator)])) st17 ?_
  have f19 := F_FRONT_BW_indicator.ext O_13.2
  have f20 := E_FRONT_BW.ext O_13.2
  obtain ⟨cq18, kq18, qa18, qb18, qc18⟩ := isOf hZ13 e17 f20
  obtain ⟨_, _, ⟨T18, L18, k18, n18⟩, -, X18, ⟨Lc18, hQ18, l18, y18, z18⟩, st18⟩ := X17.virtualBack hx (y := (⟨"com/example/gridclear/gridclear/image/ImageView$Side", "indicator", "()Ljava/lang/String;"⟩ : MethodName)) (z := (⟨"com/example/gridclear/gridclear/image/ImageView$Side", "indicator", "()Ljava/lang/String;"⟩ : MethodName)) hown13 (mvT hZ13 (hw _ (List.mem_of_getElem? (i := 55) rfl))) (mvT hZ13 (hw _ (List.mem_of_getElem? (i := 56) rfl))) (notFace_of_selects (args := #[]) (mvT hZ13 (hw _ (List.mem_of_getElem? (i := 58) rfl)))) (mvT hZ13 (hw _ (List.mem_of_getElem? (i := 58) rfl))) (mvT hZ13 (hw _ (List.mem_of_getElem? (i := 57) rfl))) (by decide) (backOf (W := 1) (rm6 l Z a0 hw [] a_FRONT_BW a_FRONT_BW_indicator T13.heap n0 O_13 f19) hZ13 (hw _ (List.mem_of_getElem? (i := 59) rfl)) (hw _ (List.mem_of_getElem? (i := 2) rfl)) (by decide) (by decide)) qa18 qc18 (g := (mkF m 19 #[.val (.int i0), .val (.int i1), .val (.ref fb1), .unset, .unset, .unset, .unset] [(.ref a_FRONT_BW), (.ref a_FRONT_BW_indicator)])) rfl (by rw [hml]; rfl) (Steps.refl _) (argsL := []) (rest := [(.ref a_FRONT_BW_indicator)]) (lenOf pd_9 rfl) rfl (by show 2 * 0 + _ ≤ _; exact Nat.le_of_eq rfl) (hb hby at_19) (fun _ _ => ⟨rfl, e17, (by decide : 8 + 0 ≤ _), (by decide : 118 + 0 ≤ _)⟩)
  dsimp only [Pt.U, Pt.locs, Pt.cells, Pt.slots] at X18 l18 y18 z18 st18 hQ18
  subst l18 y18 z18
  obtain ⟨rfl, Nq18, eh18⟩ := hQ18
  have N18 := Fr.app N13 Nq18
  refine GoesW.via (B := T18.setTop (mkF m 22 #[.val (.int i0), .val (.int i1), .val (.ref fb1), .unset, .unset, .unset, .unset] [(.ref a_FRONT_BW_indicator), (.ref a_FRONT_BW_indicator)])) st18 ?_
  have f22 := E_FRONT_BW_indicator.ext O_13.2
  obtain ⟨cq21, kq21, qa21, qb21, qc21⟩ := isOf hZ13 eh18 f22
  obtain ⟨_, _, ⟨T21, L21, k21, n21⟩, -, X21, ⟨Lc21, hQ21, l21, y21, z21⟩, st21⟩ := X18.virtualBack hx (y := (⟨"java/lang/String", "equals", "(Ljava/lang/Object;)Z"⟩ : MethodName)) (z := (⟨"java/lang/String", "equals", "(Ljava/lang/Object;)Z"⟩ : MethodName)) hown13 (mvT hZ13 (hw _ (List.mem_of_getElem? (i := 39) rfl))) (mvT hZ13 (hw _ (List.mem_of_getElem? (i := 40) rfl))) (notFace_of_selects (args := #[]) (mvT hZ13 (hw _ (List.mem_of_getElem? (i := 42) rfl)))) (mvT hZ13 (hw _ (List.mem_of_getElem? (i := 42) rfl))) (mvT hZ13 (hw _ (List.mem_of_getElem? (i := 41) rfl))) (by decide) (backOf (W := 0) (rmES l Z a0 hw [] a_FRONT_BW_indicator T13.heap n0 O_13 ) hZ13 (hw _ (List.mem_of_getElem? (i := 43) rfl)) (hw _ (List.mem_of_getElem? (i := 32) rfl)) (by decide) (by decide)) qa21 qc21 (g := (mkF m 22 #[.val (.int i0), .val (.int i1), .val (.ref fb1), .unset, .unset, .unset, .unset] [(.ref a_FRONT_BW_indicator), (.ref a_FRONT_BW_indicator)])) rfl (by rw [hml]; rfl) (Steps.refl _) (argsL := [(.ref a_FRONT_BW_indicator)]) (rest := []) (lenOf pd_2 rfl) rfl (by show 2 * 0 + _ ≤ _; exact Nat.le_of_eq rfl) (hb hby at_22) (fun _ _ => ⟨rfl, eh18, (by decide : 8 + 0 ≤ _), (by decide : 118 + 0 ≤ _)⟩)
  dsimp only [Pt.U, Pt.locs, Pt.cells, Pt.slots] at X21 l21 y21 z21 st21 hQ21
  subst l21 y21 z21
  obtain ⟨rfl, Nq21, eh21⟩ := hQ21
  have N21 := Fr.app N18 Nq21
  refine GoesW.via (B := T21.setTop (mkF m 25 #[.val (.int i0), .val (.int i1), .val (.ref fb1), .unset, .unset, .unset, .unset] [(.int (1 : Int32))])) st21 ?_
  refine GoesW.step (B := T21.setTop (mkF m 28 #[.val (.int i0), .val (.int i1), .val (.ref fb1), .unset, .unset, .unset, .unset] [])) (fun _ k => XS.ifNo X21.here hx rfl (hb hby at_25) rfl ((if0 _ _).trans (feq (by decide)).1) k) ?_
  refine GoesW.step (B := T21.setTop (mkF m 29 #[.val (.int i0), .val (.int i1), .val (.ref fb1), .unset, .unset, .unset, .unset] [(.ref fb1)])) (fun _ k => XS.aloadN X21.here hx rfl (hb hby at_28) rfl rfl k) ?_
  refine GoesW.step (B := T21.setTop (mkF m 30 #[.val (.int i0), .val (.int i1), .val (.ref fb1), .unset, .unset, .unset, .unset] [(.int (1 : Int32)), (.ref fb1)])) (fun _ k => XS.iconst X21.here hx rfl (hb hby at_29) k) ?_
  obtain ⟨c23, Ar23, -, Sz23, Nn23, Hs23, -⟩ := id f14
  have hin23 : ¬ ((1 : Int32) < 0 ∨ c23.slots.size ≤ ((1 : Int32)).toNatClampNeg) := inb_of Sz23 ⟨by decide, by decide⟩
  refine GoesW.step (B := T21.setTop (mkF m 31 #[.val (.int i0), .val (.int i1), .val (.ref fb1), .unset, .unset, .unset, .unset] [(.ref a_BACK_BW_indicator)])) (X21.aaload hx (j := (1 : Int32)) (v := (.ref a_BACK_BW_indicator)) (by rw [eh21]; exact Ar23.1) (State.isArrayOf_alike hZ13.alike Ar23.2.1) rfl Ar23.2.2 hin23 (Has.at Hs23 hin23 rfl) (g := (mkF m 30 #[.val (.int i0), .val (.int i1), .val (.ref fb1), .unset, .unset, .unset, .unset] [(.int (1 : Int32)), (.ref fb1)])) rfl rfl (hb hby at_30)) ?_
  have f24 := S_BACK_BW.ext O_13.2
  obtain ⟨T25, X25, e25, st25⟩ := getS2 X21 hx hZ13 hown13 (host := "") (Or.inl (hw _ (List.mem_of_getElem? (i := 60) rfl))) Via.refl eh21 f24 (g := (mkF m 31 #[.val (.int i0), .val (.int i1), .val (.ref fb1), .unset, .unset, .unset, .unset] [(.ref a_BACK_BW_indicator)])) rfl (hb hby at_31)
  refine GoesW.step (B := T25.setTop (mkF m 34 #[.val (.int i0), .val (.int i1), .val (.ref fb1), .unset, .unset, .unset, .unset] [(.ref a_BACK_BW), (.ref a_BACK_BW_indicator)])) st25 ?_
  have f27 := F_BACK_BW_indicator.ext O_13.2
  have f28 := E_BACK_BW.ext O_13.2
  obtain ⟨cq26, kq26, qa26, qb26, qc26⟩ := isOf hZ13 e25 f28
  obtain ⟨_, _, ⟨T26, L26, k26, n26⟩, -, X26, ⟨Lc26, hQ26, l26, y26, z26⟩, st26⟩ := X25.virtualBack hx (y := (⟨"com/example/gridclear/gridclear/image/ImageView$Side", "indicator", "()Ljava/lang/String;"⟩ : MethodName)) (z := (⟨"com/example/gridclear/gridclear/image/ImageView$Side", "indicator", "()Ljava/lang/String;"⟩ : MethodName)) hown13 (mvT hZ13 (hw _ (List.mem_of_getElem? (i := 55) rfl))) (mvT hZ13 (hw _ (List.mem_of_getElem? (i := 56) rfl))) (notFace_of_selects (args := #[]) (mvT hZ13 (hw _ (List.mem_of_getElem? (i := 58) rfl)))) (mvT hZ13 (hw _ (List.mem_of_getElem? (i := 58) rfl))) (mvT hZ13 (hw _ (List.mem_of_getElem? (i := 57) rfl))) (by decide) (backOf (W := 1) (rm6 l Z a0 hw [] a_BACK_BW a_BACK_BW_indicator T13.heap n0 O_13 f27) hZ13 (hw _ (List.mem_of_getElem? (i := 59) rfl)) (hw _ (List.mem_of_getElem? (i := 2) rfl)) (by decide) (by decide)) qa26 qc26 (g := (mkF m 34 #[.val (.int i0), .val (.int i1), .val (.ref fb1), .unset, .unset, .unset, .unset] [(.ref a_BACK_BW), (.ref a_BACK_BW_indicator)])) rfl (by rw [hml]; rfl) (Steps.refl _) (argsL := []) (rest := [(.ref a_BACK_BW_indicator)]) (lenOf pd_9 rfl) rfl (by show 2 * 0 + _ ≤ _; exact Nat.le_of_eq rfl) (hb hby at_34) (fun _ _ => ⟨rfl, e25, (by decide : 8 + 0 ≤ _), (by decide : 118 + 0 ≤ _)⟩)
  dsimp only [Pt.U, Pt.locs, Pt.cells, Pt.slots] at X26 l26 y26 z26 st26 hQ26
  subst l26 y26 z26
  obtain ⟨rfl, Nq26, eh26⟩ := hQ26
  have N26 := Fr.app N21 Nq26
  refine GoesW.via (B := T26.setTop (mkF m 37 #[.val (.int i0), .val (.int i1), .val (.ref fb1), .unset, .unset, .unset, .unset] [(.ref a_BACK_BW_indicator), (.ref a_BACK_BW_indicator)])) st26 ?_
  have f30 := E_BACK_BW_indicator.ext O_13.2
  obtain ⟨cq29, kq29, qa29, qb29, qc29⟩ := isOf hZ13 eh26 f30
  obtain ⟨_, _, ⟨T29, L29, k29, n29⟩, -, X29, ⟨Lc29, hQ29, l29, y29, z29⟩, st29⟩ := X26.virtualBack hx (y := (⟨"java/lang/String", "equals", "(Ljava/lang/Object;)Z"⟩ : MethodName)) (z := (⟨"java/lang/String", "equals", "(Ljava/lang/Object;)Z"⟩ : MethodName)) hown13 (mvT hZ13 (hw _ (List.mem_of_getElem? (i := 39) rfl))) (mvT hZ13 (hw _ (List.mem_of_getElem? (i := 40) rfl))) (notFace_of_selects (args := #[]) (mvT hZ13 (hw _ (List.mem_of_getElem? (i := 42) rfl)))) (mvT hZ13 (hw _ (List.mem_of_getElem? (i := 42) rfl))) (mvT hZ13 (hw _ (List.mem_of_getElem? (i := 41) rfl))) (by decide) (backOf (W := 0) (rmES l Z a0 hw [] a_BACK_BW_indicator T13.heap n0 O_13 ) hZ13 (hw _ (List.mem_of_getElem? (i := 43) rfl)) (hw _ (List.mem_of_getElem? (i := 32) rfl)) (by decide) (by decide)) qa29 qc29 (g := (mkF m 37 #[.val (.int i0), .val (.int i1), .val (.ref fb1), .unset, .unset, .unset, .unset] [(.ref a_BACK_BW_indicator), (.ref a_BACK_BW_indicator)])) rfl (by rw [hml]; rfl) (Steps.refl _) (argsL := [(.ref a_BACK_BW_indicator)]) (rest := []) (lenOf pd_2 rfl) rfl (by show 2 * 0 + _ ≤ _; exact Nat.le_of_eq rfl) (hb hby at_37) (fun _ _ => ⟨rfl, eh26, (by decide : 8 + 0 ≤ _), (by decide : 118 + 0 ≤ _)⟩)
  dsimp only [Pt.U, Pt.locs, Pt.cells, Pt.slots] at X29 l29 y29 z29 st29 hQ29
  subst l29 y29 z29
  obtain ⟨rfl, Nq29, eh29⟩ := hQ29
  have N29 := Fr.app N26 Nq29
  refine GoesW.via (B := T29.setTop (mkF m 40 #[.val (.int i0), .val (.int i1), .val (.ref fb1), .unset, .unset, .unset, .unset] [(.int (1 : Int32))])) st29 ?_
  refine GoesW.step (B := T29.setTop (mkF m 43 #[.val (.int i0), .val (.int i1), .val (.ref fb1), .unset, .unset, .unset, .unset] [])) (fun _ k => XS.ifNo X29.here hx rfl (hb hby at_40) rfl ((if0 _ _).trans (feq (by decide)).1) k) ?_
  refine GoesW.step (B := T29.setTop (mkF m 44 #[.val (.int i0), .val (.int i1), .val (.ref fb1), .unset, .unset, .unset, .unset] [(.ref fb1)])) (fun _ k => XS.aloadN X29.here hx rfl (hb hby at_43) rfl rfl k) ?_
  refine GoesW.step (B := T29.setTop (mkF m 45 #[.val (.int i0), .val (.int i1), .val (.ref fb1), .unset, .unset, .unset, .unset] [(.int (2 : Int32)), (.ref fb1)])) (fun _ k => XS.iconst X29.here hx rfl (hb hby at_44) k) ?_
  obtain ⟨c31, Ar31, -, Sz31, Nn31, Hs31, -⟩ := id f14
  have hin31 : ¬ ((2 : Int32) < 0 ∨ c31.slots.size ≤ ((2 : Int32)).toNatClampNeg) := inb_of Sz31 ⟨by decide, by decide⟩
  refine GoesW.step (B := T29.setTop (mkF m 46 #[.val (.int i0), .val (.int i1), .val (.ref fb1), .unset, .unset, .unset, .unset] [(.ref a_FRONT_GREY_indicator)])) (X29.aaload hx (j := (2 : Int32)) (v := (.ref a_FRONT_GREY_indicator)) (by rw [eh29]; exact Ar31.1) (State.isArrayOf_alike hZ13.alike Ar31.2.1) rfl Ar31.2.2 hin31 (Has.at Hs31 hin31 rfl) (g := (mkF m 45 #[.val (.int i0), .val (.int i1), .val (.ref fb1), .unset, .unset, .unset, .unset] [(.int (2 : Int32)), (.ref fb1)])) rfl rfl (hb hby at_45)) ?_
  have f32 := S_FRONT_GREY.ext O_13.2
  obtain ⟨T33, X33, e33, st33⟩ := getS2 X29 hx hZ13 hown13 (host := "") (Or.inl (hw _ (List.mem_of_getElem? (i := 61) rfl))) Via.refl eh29 f32 (g := (mkF m 46 #[.val (.int i0), .val (.int i1), .val (.ref fb1), .unset, .unset, .unset, .unset] [(.ref a_FRONT_GREY_indicator)])) rfl (hb hby at_46)
  refine GoesW.step (B := T33.setTop (mkF m 49 #[.val (.int i0), .val (.int i1), .val (.ref fb1), .unset, .unset, .unset, .unset] [(.ref a_FRONT_GREY), (.ref a_FRONT_GREY_indicator)])) st33 ?_
  have f35 := F_FRONT_GREY_indicator.ext O_13.2
  have f36 := E_FRONT_GREY.ext O_13.2
  obtain ⟨cq34, kq34, qa34, qb34, qc34⟩ := isOf hZ13 e33 f36
  obtain ⟨_, _, ⟨T34, L34, k34, n34⟩, -, X34, ⟨Lc34, hQ34, l34, y34, z34⟩, st34⟩ := X33.virtualBack hx (y := (⟨"com/example/gridclear/gridclear/image/ImageView$Side", "indicator", "()Ljava/lang/String;"⟩ : MethodName)) (z := (⟨"com/example/gridclear/gridclear/image/ImageView$Side", "indicator", "()Ljava/lang/String;"⟩ : MethodName)) hown13 (mvT hZ13 (hw _ (List.mem_of_getElem? (i := 55) rfl))) (mvT hZ13 (hw _ (List.mem_of_getElem? (i := 56) rfl))) (notFace_of_selects (args := #[]) (mvT hZ13 (hw _ (List.mem_of_getElem? (i := 58) rfl)))) (mvT hZ13 (hw _ (List.mem_of_getElem? (i := 58) rfl))) (mvT hZ13 (hw _ (List.mem_of_getElem? (i := 57) rfl))) (by decide) (backOf (W := 1) (rm6 l Z a0 hw [] a_FRONT_GREY a_FRONT_GREY_indicator T13.heap n0 O_13 f35) hZ13 (hw _ (List.mem_of_getElem? (i := 59) rfl)) (hw _ (List.mem_of_getElem? (i := 2) rfl)) (by decide) (by decide)) qa34 qc34 (g := (mkF m 49 #[.val (.int i0), .val (.int i1), .val (.ref fb1), .unset, .unset, .unset, .unset] [(.ref a_FRONT_GREY), (.ref a_FRONT_GREY_indicator)])) rfl (by rw [hml]; rfl) (Steps.refl _) (argsL := []) (rest := [(.ref a_FRONT_GREY_indicator)]) (lenOf pd_9 rfl) rfl (by show 2 * 0 + _ ≤ _; exact Nat.le_of_eq rfl) (hb hby at_49) (fun _ _ => ⟨rfl, e33, (by decide : 8 + 0 ≤ _), (by decide : 118 + 0 ≤ _)⟩)
  dsimp only [Pt.U, Pt.locs, Pt.cells, Pt.slots] at X34 l34 y34 z34 st34 hQ34
  subst l34 y34 z34
  obtain ⟨rfl, Nq34, eh34⟩ := hQ34
  have N34 := Fr.app N29 Nq34
  refine GoesW.via (B := T34.setTop (mkF m 52 #[.val (.int i0), .val (.int i1), .val (.ref fb1), .unset, .unset, .unset, .unset] [(.ref a_FRONT_GREY_indicator), (.ref a_FRONT_GREY_indicator)])) st34 ?_
  have f38 := E_FRONT_GREY_indicator.ext O_13.2
  obtain ⟨cq37, kq37, qa37, qb37, qc37⟩ := isOf hZ13 eh34 f38
  obtain ⟨_, _, ⟨T37, L37, k37, n37⟩, -, X37, ⟨Lc37, hQ37, l37, y37, z37⟩, st37⟩ := X34.virtualBack hx (y := (⟨"java/lang/String", "equals", "(Ljava/lang/Object;)Z"⟩ : MethodName)) (z := (⟨"java/lang/String", "equals", "(Ljava/lang/Object;)Z"⟩ : MethodName)) hown13 (mvT hZ13 (hw _ (List.mem_of_getElem? (i := 39) rfl))) (mvT hZ13 (hw _ (List.mem_of_getElem? (i := 40) rfl))) (notFace_of_selects (args := #[]) (mvT hZ13 (hw _ (List.mem_of_getElem? (i := 42) rfl)))) (mvT hZ13 (hw _ (List.mem_of_getElem? (i := 42) rfl))) (mvT hZ13 (hw _ (List.mem_of_getElem? (i := 41) rfl))) (by decide) (backOf (W := 0) (rmES l Z a0 hw [] a_FRONT_GREY_indicator T13.heap n0 O_13 ) hZ13 (hw _ (List.mem_of_getElem? (i := 43) rfl)) (hw _ (List.mem_of_getElem? (i := 32) rfl)) (by decide) (by decide)) qa37 qc37 (g := (mkF m 52 #[.val (.int i0), .val (.int i1), .val (.ref fb1), .unset, .unset, .unset, .unset] [(.ref a_FRONT_GREY_indicator), (.ref a_FRONT_GREY_indicator)])) rfl (by rw [hml]; rfl) (Steps.refl _) (argsL := [(.ref a_FRONT_GREY_indicator)]) (rest := []) (lenOf pd_2 rfl) rfl (by show 2 * 0 + _ ≤ _; exact Nat.le_of_eq rfl) (hb hby at_52) (fun _ _ => ⟨rfl, eh34, (by decide : 8 + 0 ≤ _), (by decide : 118 + 0 ≤ _)⟩)
  dsimp only [Pt.U, Pt.locs, Pt.cells, Pt.slots] at X37 l37 y37 z37 st37 hQ37
  subst l37 y37 z37
  obtain ⟨rfl, Nq37, eh37⟩ := hQ37
  have N37 := Fr.app N34 Nq37
  refine GoesW.via (B := T37.setTop (mkF m 55 #[.val (.int i0), .val (.int i1), .val (.ref fb1), .unset, .unset, .unset, .unset] [(.int (1 : Int32))])) st37 ?_
  refine GoesW.step (B := T37.setTop (mkF m 60 #[.val (.int i0), .val (.int i1), .val (.ref fb1), .unset, .unset, .unset, .unset] [])) (fun _ k => XS.ifYes X37.here hx rfl (pc0 := 55) (pc' := 60) rfl (hb hby at_55) rfl ((if0 _ _).trans (feq (by decide)).2) (by decide) (by decide) k) ?_
  refine GoesW.step (B := T37.setTop (mkF m 61 #[.val (.int i0), .val (.int i1), .val (.ref fb1), .unset, .unset, .unset, .unset] [(.int i0)])) (fun _ k => XS.iloadN X37.here hx rfl (hb hby at_60) rfl k) ?_
  refine GoesW.step (B := T37.setTop (mkF m 63 #[.val (.int i0), .val (.int i1), .val (.ref fb1), .unset, .unset, .unset, .unset] [(.int (2147483647 : Int32)), (.int i0)])) (X37.ldcInt hx hown13 (mvT hZ13 (hw _ (List.mem_of_getElem? (i := 62) rfl))) (g := (mkF m 61 #[.val (.int i0), .val (.int i1), .val (.ref fb1), .unset, .unset, .unset, .unset] [(.int i0)])) rfl (hb hby at_61)) ?_
  refine GoesW.step (B := T37.setTop (mkF m 64 #[.val (.int i0), .val (.int i1), .val (.ref fb1), .unset, .unset, .unset, .unset] [(.int (i0 &&& (2147483647 : Int32)))])) (fun _ k => XS.iand X37.here hx rfl (hb hby at_63) rfl k) ?_
  refine GoesW.step (B := T37.setTop (mkF m 65 #[.val (.int i0), .val (.int i1), .val (.ref fb1), .unset, .unset, .unset, .unset] [(.int (3 : Int32)), (.int (i0 &&& (2147483647 : Int32)))])) (fun _ k => XS.iconst X37.here hx rfl (hb hby at_64) k) ?_
  refine GoesW.step (B := T37.setTop (mkF m 66 #[.val (.int i0), .val (.int i1), .val (.ref fb1), .unset, .unset, .unset, .unset] [(.int ((i0 &&& (2147483647 : Int32)) % (3 : Int32)))])) (fun _ k => iremM X37 hx rfl (hb hby at_65) rfl (by decide) k) ?_
  obtain ⟨iv, hiv⟩ : ∃ z, z = ((i0 &&& (2147483647 : Int32)) % (3 : Int32)) := ⟨_, rfl⟩
  rw [← hiv]
  rcases own_m3 hiv with rfl | rfl | rfl
  · refine GoesW.step (B := T37.setTop (mkF m 67 #[.val (.int i0), .val (.int i1), .val (.ref fb1), .val (.int (0 : Int32)), .unset, .unset, .unset] [])) (fun _ k => XS.istoreN X37.here hx rfl (hb hby at_66) rfl (l' := #[.val (.int i0), .val (.int i1), .val (.ref fb1), .val (.int (0 : Int32)), .unset, .unset, .unset]) rfl k) ?_
    refine GoesW.step (B := T37.setTop (mkF m 68 #[.val (.int i0), .val (.int i1), .val (.ref fb1), .val (.int (0 : Int32)), .unset, .unset, .unset] [(.int (0 : Int32))])) (fun _ k => XS.iloadN X37.here hx rfl (hb hby at_67) rfl k) ?_
    refine GoesW.step (B := T37.setTop (mkF m 71 #[.val (.int i0), .val (.int i1), .val (.ref fb1), .val (.int (0 : Int32)), .unset, .unset, .unset] [])) (fun _ k => XS.ifNo X37.here hx rfl (hb hby at_68) rfl ((if0 _ _).trans (teq (by decide)).2) k) ?_
    obtain ⟨T39, X39, e39, st39⟩ := getS2 X37 hx hZ13 hown13 (host := "") (Or.inl (hw _ (List.mem_of_getElem? (i := 54) rfl))) Via.refl eh37 f16 (g := (mkF m 71 #[.val (.int i0), .val (.int i1), .val (.ref fb1), .val (.int (0 : Int32)), .unset, .unset, .unset] [])) rfl (hb hby at_71)
    refine GoesW.step (B := T39.setTop (mkF m 74 #[.val (.int i0), .val (.int i1), .val (.ref fb1), .val (.int (0 : Int32)), .unset, .unset, .unset] [(.ref a_FRONT_BW)])) st39 ?_
    refine GoesW.step (B := T39.setTop (mkF m 76 #[.val (.int i0), .val (.int i1), .val (.ref fb1), .val (.int (0 : Int32)), .val (.ref a_FRONT_BW), .unset, .unset] [])) (fun _ k => XS.astore X39.here hx rfl (hb hby at_74) rfl rfl (l' := #[.val (.int i0), .val (.int i1), .val (.ref fb1), .val (.int (0 : Int32)), .val (.ref a_FRONT_BW), .unset, .unset]) rfl k) ?_
    refine GoesW.step (B := T39.setTop (mkF m 97 #[.val (.int i0), .val (.int i1), .val (.ref fb1), .val (.int (0 : Int32)), .val (.ref a_FRONT_BW), .unset, .unset] [])) (fun _ k => XS.goto X39.here hx rfl (pc0 := 76) (pc' := 97) rfl (hb hby at_76) (by decide) (by decide) k) ?_
    refine GoesW.step (B := T39.setTop (mkF m 98 #[.val (.int i0), .val (.int i1), .val (.ref fb1), .val (.int (0 : Int32)), .val (.ref a_FRONT_BW), .unset, .unset] [(.ref fb1)])) (fun _ k => XS.aloadN X39.here hx rfl (hb hby at_97) rfl rfl k) ?_
    refine GoesW.step (B := T39.setTop (mkF m 99 #[.val (.int i0), .val (.int i1), .val (.ref fb1), .val (.int (0 : Int32)), .val (.ref a_FRONT_BW), .unset, .unset] [(.int (0 : Int32)), (.ref fb1)])) (fun _ k => XS.iloadN X39.here hx rfl (hb hby at_98) rfl k) ?_
    obtain ⟨c40, Ar40, -, Sz40, Nn40, Hs40, -⟩ := id f14
    have hin40 : ¬ ((0 : Int32) < 0 ∨ c40.slots.size ≤ ((0 : Int32)).toNatClampNeg) := inb_of Sz40 ⟨by decide, by decide⟩
    refine GoesW.step (B := T39.setTop (mkF m 100 #[.val (.int i0), .val (.int i1), .val (.ref fb1), .val (.int (0 : Int32)), .val (.ref a_FRONT_BW), .unset, .unset] [(.ref a_FRONT_BW_indicator)])) (X39.aaload hx (j := (0 : Int32)) (v := (.ref a_FRONT_BW_indicator)) (by rw [e39]; exact Ar40.1) (State.isArrayOf_alike hZ13.alike Ar40.2.1) rfl Ar40.2.2 hin40 (Has.at Hs40 hin40 rfl) (g := (mkF m 99 #[.val (.int i0), .val (.int i1), .val (.ref fb1), .val (.int (0 : Int32)), .val (.ref a_FRONT_BW), .unset, .unset] [(.int (0 : Int32)), (.ref fb1)])) rfl rfl (hb hby at_99)) ?_
    obtain ⟨_, _, ⟨T41, L41, k41, n41⟩, -, X41, ⟨Lc41, hQ41, l41, y41, z41⟩, st41⟩ := Jvm.LawKit.callS X39 hx (y := (⟨"com/example/gridclear/gridclear/image/ImageView$Side", "of", "(Ljava/lang/String;)Lcom/example/gridclear/gridclear/image/ImageView$Side;"⟩ : MethodName)) hown13 (mvT hZ13 (hw _ (List.mem_of_getElem? (i := 63) rfl))) (mvT hZ13 (hw _ (List.mem_of_getElem? (i := 64) rfl))) (mvT hZ13 (hw _ (List.mem_of_getElem? (i := 2) rfl))) (mvT hZ13 (hw _ (List.mem_of_getElem? (i := 65) rfl))) (by decide) (backOf (W := 0) (rmOf0 l Z a0 hw [] a__VALUES a_FRONT_BW a_BACK_BW a_FRONT_GREY a_FRONT_BW_indicator a_BACK_BW_indicator a_FRONT_GREY_indicator a_FRONT_BW_indicator_value a_BACK_BW_indicator_value a_FRONT_GREY_indicator_value k__VALUES k_FRONT_BW_indicator_value k_BACK_BW_indicator_value k_FRONT_GREY_indicator_value cs T13.heap n0 O_13 FS) hZ13 (hw _ (List.mem_of_getElem? (i := 65) rfl)) (hw _ (List.mem_of_getElem? (i := 2) rfl)) (by decide) (by decide)) (g := (mkF m 100 #[.val (.int i0), .val (.int i1), .val (.ref fb1), .val (.int (0 : Int32)), .val (.ref a_FRONT_BW), .unset, .unset] [(.ref a_FRONT_BW_indicator)])) rfl (by rw [hml]; rfl) (argsL := [(.ref a_FRONT_BW_indicator)]) (rest := []) (lenOf pd_10 rfl) rfl (by show 2 * 0 + _ ≤ _; exact Nat.le_of_eq rfl) (hb hby at_100) (fun _ _ => ⟨rfl, e39, (by decide : 8 + 1 ≤ _), (by decide : 118 + 3 ≤ _)⟩)
    dsimp only [Pt.U, Pt.locs, Pt.cells, Pt.slots] at X41 l41 y41 z41 st41 hQ41
    subst l41 y41 z41
    obtain ⟨rfl, Nq41, Kp41⟩ := hQ41
    have CH42 := CHc13.trans (CHr.keep Kp41 sf0 CHc13.1)
    have O_41 := O_13.keep Kp41 all0
    have N41 := Fr.app N37 Nq41
    refine GoesW.step (B := T41.setTop (mkF m 103 #[.val (.int i0), .val (.int i1), .val (.ref fb1), .val (.int (0 : Int32)), .val (.ref a_FRONT_BW), .unset, .unset] [(.ref a_FRONT_BW)])) st41 ?_
    refine GoesW.step (B := T41.setTop (mkF m 105 #[.val (.int i0), .val (.int i1), .val (.ref fb1), .val (.int (0 : Int32)), .val (.ref a_FRONT_BW), .unset, .unset] [(.ref a_FRONT_BW), (.ref a_FRONT_BW)])) (fun _ k => XS.aload X41.here hx rfl (hb hby at_103) rfl rfl k) ?_
    refine GoesW.step (B := T41.setTop (mkF m 110 #[.val (.int i0), .val (.int i1), .val (.ref fb1), .val (.int (0 : Int32)), .val (.ref a_FRONT_BW), .unset, .unset] [])) (fun _ k => Jvm.RoadKit.acmp (g := (mkF m 105 #[.val (.int i0), .val (.int i1), .val (.ref fb1), .val (.int (0 : Int32)), .val (.ref a_FRONT_BW), .unset, .unset] [(.ref a_FRONT_BW), (.ref a_FRONT_BW)])) X41 hx rfl rfl rfl (pc0 := 105) (pc' := 110) (same := true) rfl (hb hby at_105) rfl (decide_eq_true rfl) (by decide) (by decide) k) ?_
    refine GoesW.step (B := T41.setTop (mkF m 111 #[.val (.int i0), .val (.int i1), .val (.ref fb1), .val (.int (0 : Int32)), .val (.ref a_FRONT_BW), .unset, .unset] [(.int (1 : Int32))])) (fun _ k => XS.iconst X41.here hx rfl (hb hby at_110) k) ?_
    obtain ⟨T43, h43, k43, X43, e43, E43, A43, st43⟩ := newP X41 hx hZ13 (hw _ (List.mem_of_getElem? (i := 67) rfl)) rfl (g := (mkF m 111 #[.val (.int i0), .val (.int i1), .val (.ref fb1), .val (.int (0 : Int32)), .val (.ref a_FRONT_BW), .unset, .unset] [(.int (1 : Int32))])) rfl (hb hby at_111) rfl (by decide) (cap := 1) (by decide) (by decide) (by decide) (by decide)
    obtain ⟨b43, g43⟩ : ∃ z, z = T41.heap.size := ⟨_, rfl⟩
    rw [← g43] at A43 st43
    have f44 := E__VALUES.ext O_41.2
    have ne_a__VALUES_b43 : a__VALUES ≠ b43 := Nat.ne_of_lt (Nat.lt_of_lt_of_le f44.lt (Nat.le_of_eq g43.symm))
    have f45 := E_FRONT_BW.ext O_41.2
    have ne_a_FRONT_BW_b43 : a_FRONT_BW ≠ b43 := Nat.ne_of_lt (Nat.lt_of_lt_of_le f45.lt (Nat.le_of_eq g43.symm))
    have f46 := E_BACK_BW.ext O_41.2
    have ne_a_BACK_BW_b43 : a_BACK_BW ≠ b43 := Nat.ne_of_lt (Nat.lt_of_lt_of_le f46.lt (Nat.le_of_eq g43.symm))
    have f47 := E_FRONT_GREY.ext O_41.2
    have ne_a_FRONT_GREY_b43 : a_FRONT_GREY ≠ b43 := Nat.ne_of_lt (Nat.lt_of_lt_of_le f47.lt (Nat.le_of_eq g43.symm))
    have f48 := E_FRONT_BW_indicator.ext O_41.2
    have ne_a_FRONT_BW_indicator_b43 : a_FRONT_BW_indicator ≠ b43 := Nat.ne_of_lt (Nat.lt_of_lt_of_le f48.lt (Nat.le_of_eq g43.symm))
    have f49 := E_BACK_BW_indicator.ext O_41.2
    have ne_a_BACK_BW_indicator_b43 : a_BACK_BW_indicator ≠ b43 := Nat.ne_of_lt (Nat.lt_of_lt_of_le f49.lt (Nat.le_of_eq g43.symm))
    have f50 := E_FRONT_GREY_indicator.ext O_41.2
    have ne_a_FRONT_GREY_indicator_b43 : a_FRONT_GREY_indicator ≠ b43 := Nat.ne_of_lt (Nat.lt_of_lt_of_le f50.lt (Nat.le_of_eq g43.symm))
    have f51 := V_FRONT_BW_indicator_value.ext O_41.2
    have ne_a_FRONT_BW_indicator_value_b43 : a_FRONT_BW_indicator_value ≠ b43 := Nat.ne_of_lt (Nat.lt_of_lt_of_le f51.lt (Nat.le_of_eq g43.symm))
    have f52 := V_BACK_BW_indicator_value.ext O_41.2
    have ne_a_BACK_BW_indicator_value_b43 : a_BACK_BW_indicator_value ≠ b43 := Nat.ne_of_lt (Nat.lt_of_lt_of_le f52.lt (Nat.le_of_eq g43.symm))
    have f53 := V_FRONT_GREY_indicator_value.ext O_41.2
    have ne_a_FRONT_GREY_indicator_value_b43 : a_FRONT_GREY_indicator_value ≠ b43 := Nat.ne_of_lt (Nat.lt_of_lt_of_le f53.lt (Nat.le_of_eq g43.symm))
    have f54 := (f14.keep Kp41 nin0)
    have ne_fb1_b43 : fb1 ≠ b43 := Nat.ne_of_lt (Nat.lt_of_lt_of_le f54.lt (Nat.le_of_eq g43.symm))
    have g_b43 : n0 ≤ b43 := Nat.le_trans (own_z O_41) (Nat.le_of_eq g43.symm)
    have Sf_b43 := Safe.ext E43 CH42.1 (Safe.new (Nat.le_of_eq g43.symm))
    have CH55 := CH42.trans (CHr.ext E43 CH42.1)
    have O_43 := O_41.ext E43
    have V_b43 : Arv Z h43 b43 k43 .char (1 : Int32) [(.int (0 : Int32))] (.int (0 : Int32)) := (Arv.new A43 (by decide)).pad (pad_rep [] (.int (0 : Int32)) 1)
    refine GoesW.step (B := T43.setTop (mkF m 113 #[.val (.int i0), .val (.int i1), .val (.ref fb1), .val (.int (0 : Int32)), .val (.ref a_FRONT_BW), .unset, .unset] [(.ref b43)])) st43 ?_
    refine GoesW.step (B := T43.setTop (mkF m 115 #[.val (.int i0), .val (.int i1), .val (.ref fb1), .val (.int (0 : Int32)), .val (.ref a_FRONT_BW), .val (.ref b43), .unset] [])) (fun _ k => XS.astore X43.here hx rfl (hb hby at_113) rfl rfl (l' := #[.val (.int i0), .val (.int i1), .val (.ref fb1), .val (.int (0 : Int32)), .val (.ref a_FRONT_BW), .val (.ref b43), .unset]) rfl k) ?_
    refine GoesW.step (B := T43.setTop (mkF m 117 #[.val (.int i0), .val (.int i1), .val (.ref fb1), .val (.int (0 : Int32)), .val (.ref a_FRONT_BW), .val (.ref b43), .unset] [(.ref b43)])) (fun _ k => XS.aload X43.here hx rfl (hb hby at_115) rfl rfl k) ?_
    refine GoesW.step (B := T43.setTop (mkF m 118 #[.val (.int i0), .val (.int i1), .val (.ref fb1), .val (.int (0 : Int32)), .val (.ref a_FRONT_BW), .val (.ref b43), .unset] [(.int (0 : Int32)), (.ref b43)])) (fun _ k => XS.iconst X43.here hx rfl (hb hby at_117) k) ?_
    refine GoesW.step (B := T43.setTop (mkF m 119 #[.val (.int i0), .val (.int i1), .val (.ref fb1), .val (.int (0 : Int32)), .val (.ref a_FRONT_BW), .val (.ref b43), .unset] [(.int i1), (.int (0 : Int32)), (.ref b43)])) (fun _ k => XS.iloadN X43.here hx rfl (hb hby at_118) rfl k) ?_
    refine GoesW.step (B := T43.setTop (mkF m 122 #[.val (.int i0), .val (.int i1), .val (.ref fb1), .val (.int (0 : Int32)), .val (.ref a_FRONT_BW), .val (.ref b43), .unset] [(.int (255 : Int32)), (.int i1), (.int (0 : Int32)), (.ref b43)])) (fun _ k => XS.sipush X43.here hx rfl (hb hby at_119) k) ?_
    refine GoesW.step (B := T43.setTop (mkF m 123 #[.val (.int i0), .val (.int i1), .val (.ref fb1), .val (.int (0 : Int32)), .val (.ref a_FRONT_BW), .val (.ref b43), .unset] [(.int (i1 &&& (255 : Int32))), (.int (0 : Int32)), (.ref b43)])) (fun _ k => XS.iand X43.here hx rfl (hb hby at_122) rfl k) ?_
    refine GoesW.step (B := T43.setTop (mkF m 124 #[.val (.int i0), .val (.int i1), .val (.ref fb1), .val (.int (0 : Int32)), .val (.ref a_FRONT_BW), .val (.ref b43), .unset] [(.int (i1 &&& (255 : Int32)).toUInt32.toUInt16.toUInt32.toInt32), (.int (0 : Int32)), (.ref b43)])) (fun _ k => XS.i2c X43.here hx rfl (hb hby at_123) rfl k) ?_
    obtain ⟨cv, hcv⟩ : ∃ z, z = (i1 &&& (255 : Int32)).toUInt32.toUInt16.toUInt32.toInt32 := ⟨_, rfl⟩
    rw [← hcv]
    have hch := own_ch hcv
    obtain ⟨c56, Ar56, q56, Sz56, Nn56, Hs56, Gs56⟩ := id V_b43
    have hin56 : ¬ ((0 : Int32) < 0 ∨ c56.slots.size ≤ ((0 : Int32)).toNatClampNeg) := inb_of Sz56 ⟨by decide, by decide⟩
    obtain ⟨T56, h56, X56, e56, W56, st56⟩ := stC X43 hx hZ13 e43 Ar56 (j := (0 : Int32)) hin56 (g := (mkF m 124 #[.val (.int i0), .val (.int i1), .val (.ref fb1), .val (.int (0 : Int32)), .val (.ref a_FRONT_BW), .val (.ref b43), .unset] [(.int cv), (.int (0 : Int32)), (.ref b43)])) rfl rfl (hb hby at_124)
    have Sf57 := Safe.wr W56 Sf_b43 CH55.1 Sf_b43
    have CH58 := CH55.trans (CHr.wr W56 Sf_b43 CH55.1)
    have V56 : Arv Z h56 b43 k43 .char (1 : Int32) [(.int (nar .char cv))] (.int (0 : Int32)) := Arv.set Ar56 q56 Sz56 Nn56 Hs56 Gs56 (fits_nar_char _) W56 0 rfl (Nat.le_of_ble_eq_true rfl)
    have N56 := Fr.snoc X56 N41 g_b43
    have O_56 := O_43.wr W56 g_b43
    refine GoesW.step (B := T56.setTop (mkF m 125 #[.val (.int i0), .val (.int i1), .val (.ref fb1), .val (.int (0 : Int32)), .val (.ref a_FRONT_BW), .val (.ref b43), .unset] [])) st56 ?_
    refine GoesW.step (B := T56.setTop (mkF m 126 #[.val (.int i0), .val (.int i1), .val (.ref fb1), .val (.int (0 : Int32)), .val (.ref a_FRONT_BW), .val (.ref b43), .unset] [(.ref fb1)])) (fun _ k => XS.aloadN X56.here hx rfl (hb hby at_125) rfl rfl k) ?_
    refine GoesW.step (B := T56.setTop (mkF m 127 #[.val (.int i0), .val (.int i1), .val (.ref fb1), .val (.int (0 : Int32)), .val (.ref a_FRONT_BW), .val (.ref b43), .unset] [(.int (0 : Int32)), (.ref fb1)])) (fun _ k => XS.iloadN X56.here hx rfl (hb hby at_126) rfl k) ?_
    obtain ⟨T59, h59, X59, e59, E59, A59, D59, -, st59⟩ := newO X56 hx hZ13 hown13 (hw _ (List.mem_of_getElem? (i := 68) rfl)) (hw _ (List.mem_of_getElem? (i := 33) rfl)) (hw _ (List.mem_of_getElem? (i := 32) rfl)) e56 (g := (mkF m 127 #[.val (.int i0), .val (.int i1), .val (.ref fb1), .val (.int (0 : Int32)), .val (.ref a_FRONT_BW), .val (.ref b43), .unset] [(.int (0 : Int32)), (.ref fb1)])) rfl (hb hby at_127) (by decide) (by decide)
    obtain ⟨b59, g59⟩ : ∃ z, z = h56.size := ⟨_, rfl⟩
    rw [← g59] at A59 D59 st59
    have f60 := E__VALUES.ext O_56.2
    have ne_a__VALUES_b59 : a__VALUES ≠ b59 := Nat.ne_of_lt (Nat.lt_of_lt_of_le f60.lt (Nat.le_of_eq g59.symm))
    have f61 := E_FRONT_BW.ext O_56.2
    have ne_a_FRONT_BW_b59 : a_FRONT_BW ≠ b59 := Nat.ne_of_lt (Nat.lt_of_lt_of_le f61.lt (Nat.le_of_eq g59.symm))
    have f62 := E_BACK_BW.ext O_56.2
    have ne_a_BACK_BW_b59 : a_BACK_BW ≠ b59 := Nat.ne_of_lt (Nat.lt_of_lt_of_le f62.lt (Nat.le_of_eq g59.symm))
    have f63 := E_FRONT_GREY.ext O_56.2
    have ne_a_FRONT_GREY_b59 : a_FRONT_GREY ≠ b59 := Nat.ne_of_lt (Nat.lt_of_lt_of_le f63.lt (Nat.le_of_eq g59.symm))
    have f64 := E_FRONT_BW_indicator.ext O_56.2
    have ne_a_FRONT_BW_indicator_b59 : a_FRONT_BW_indicator ≠ b59 := Nat.ne_of_lt (Nat.lt_of_lt_of_le f64.lt (Nat.le_of_eq g59.symm))
    have f65 := E_BACK_BW_indicator.ext O_56.2
    have ne_a_BACK_BW_indicator_b59 : a_BACK_BW_indicator ≠ b59 := Nat.ne_of_lt (Nat.lt_of_lt_of_le f65.lt (Nat.le_of_eq g59.symm))
    have f66 := E_FRONT_GREY_indicator.ext O_56.2
    have ne_a_FRONT_GREY_indicator_b59 : a_FRONT_GREY_indicator ≠ b59 := Nat.ne_of_lt (Nat.lt_of_lt_of_le f66.lt (Nat.le_of_eq g59.symm))
    have f67 := V_FRONT_BW_indicator_value.ext O_56.2
    have ne_a_FRONT_BW_indicator_value_b59 : a_FRONT_BW_indicator_value ≠ b59 := Nat.ne_of_lt (Nat.lt_of_lt_of_le f67.lt (Nat.le_of_eq g59.symm))
    have f68 := V_BACK_BW_indicator_value.ext O_56.2
    have ne_a_BACK_BW_indicator_value_b59 : a_BACK_BW_indicator_value ≠ b59 := Nat.ne_of_lt (Nat.lt_of_lt_of_le f68.lt (Nat.le_of_eq g59.symm))
    have f69 := V_FRONT_GREY_indicator_value.ext O_56.2
    have ne_a_FRONT_GREY_indicator_value_b59 : a_FRONT_GREY_indicator_value ≠ b59 := Nat.ne_of_lt (Nat.lt_of_lt_of_le f69.lt (Nat.le_of_eq g59.symm))
    have f70 := ((f54.ext E43).other W56 ne_fb1_b43)
    have ne_fb1_b59 : fb1 ≠ b59 := Nat.ne_of_lt (Nat.lt_of_lt_of_le f70.lt (Nat.le_of_eq g59.symm))
    have ne_b43_b59 : b43 ≠ b59 := Nat.ne_of_lt (Nat.lt_of_lt_of_le V56.lt (Nat.le_of_eq g59.symm))
    have g_b59 : n0 ≤ b59 := Nat.le_trans (own_z O_56) (Nat.le_of_eq g59.symm)
    have Sf_b59 := Safe.ext E59 CH58.1 (Safe.new (Nat.le_of_eq g59.symm))
    have Sf71 := Safe.ext E59 CH58.1 Sf57
    have CH72 := CH58.trans (CHr.ext E59 CH58.1)
    have O_59 := O_56.ext E59
    have F59_value : Fld Z h59 b59 "java/lang/String" "value" "[B" .null := D59 (Or.inr (hw _ (List.mem_of_getElem? (i := 35) rfl))) (ty := (.array .byte)) (by decide)
    have F59_coder : Fld Z h59 b59 "java/lang/String" "coder" "B" (.int (0 : Int32)) := D59 (Or.inr (hw _ (List.mem_of_getElem? (i := 36) rfl))) (ty := .byte) (by decide)
    refine GoesW.step (B := T59.setTop (mkF m 130 #[.val (.int i0), .val (.int i1), .val (.ref fb1), .val (.int (0 : Int32)), .val (.ref a_FRONT_BW), .val (.ref b43), .unset] [(.ref b59), (.int (0 : Int32)), (.ref fb1)])) st59 ?_
    refine GoesW.step (B := T59.setTop (mkF m 131 #[.val (.int i0), .val (.int i1), .val (.ref fb1), .val (.int (0 : Int32)), .val (.ref a_FRONT_BW), .val (.ref b43), .unset] [(.ref b59), (.ref b59), (.int (0 : Int32)), (.ref fb1)])) (fun _ k => XS.dup X59.here hx rfl (hb hby at_130) rfl rfl k) ?_
    refine GoesW.step (B := T59.setTop (mkF m 133 #[.val (.int i0), .val (.int i1), .val (.ref fb1), .val (.int (0 : Int32)), .val (.ref a_FRONT_BW), .val (.ref b43), .unset] [(.ref b43), (.ref b59), (.ref b59), (.int (0 : Int32)), (.ref fb1)])) (fun _ k => XS.aload X59.here hx rfl (hb hby at_131) rfl rfl k) ?_
    have f74 := (V56.ext E59)
    have f75 := S_COMPACT_STRINGS.ext O_59.2
    obtain ⟨_, _, ⟨T73, L73, k73, n73⟩, -, X73, ⟨Lc73, hQ73, l73, y73, z73⟩, st73⟩ := X59.specialBack hx (y := (⟨"java/lang/String", "<init>", "([C)V"⟩ : MethodName)) rfl hown13 (mvT hZ13 (hw _ (List.mem_of_getElem? (i := 69) rfl))) (mvT hZ13 (hw _ (List.mem_of_getElem? (i := 70) rfl))) (mvT hZ13 (hw _ (List.mem_of_getElem? (i := 71) rfl))) (by decide) (backOf (W := 3) (rmSI l Z a0 hw [] b59 b43 k43 (nar .char cv) cs h59 n0 O_59 A59 g_b59 F59_value F59_coder f74 hch f75 hcs) hZ13 (hw _ (List.mem_of_getElem? (i := 71) rfl)) (hw _ (List.mem_of_getElem? (i := 32) rfl)) (by decide) (by decide)) (g := (mkF m 133 #[.val (.int i0), .val (.int i1), .val (.ref fb1), .val (.int (0 : Int32)), .val (.ref a_FRONT_BW), .val (.ref b43), .unset] [(.ref b43), (.ref b59), (.ref b59), (.int (0 : Int32)), (.ref fb1)])) rfl (by rw [hml]; rfl) (Steps.refl _) (a := b59) (argsL := [(.ref b43)]) (rest := [(.ref b59), (.int (0 : Int32)), (.ref fb1)]) (lenOf pd_11 rfl) rfl (by show 2 * 0 + _ ≤ _; exact Nat.le_of_eq rfl) (hb hby at_133) (fun _ _ => ⟨rfl, e59, (by decide : 11 + 1 ≤ _), (by decide : 126 + 1 ≤ _)⟩)
    dsimp only [Pt.U, Pt.locs, Pt.cells, Pt.slots] at X73 l73 y73 z73 st73 hQ73
    subst l73 y73 z73
    obtain ⟨rfl, Nq73, Kp73, Ex73⟩ := hQ73
    have Sf76 := Safe.keep Kp73 (sfS Sf_b59 sf0) CH72.1 Sf71
    have Sf77 := Safe.keep Kp73 (sfS Sf_b59 sf0) CH72.1 Sf_b59
    have CH78 := CH72.trans (CHr.keep Kp73 (sfS Sf_b59 sf0) CH72.1)
    have O_73 := O_59.keep Kp73 (allS g_b59 all0)
    have N73 := Fr.app N56 Nq73
    refine GoesW.via (B := T73.setTop (mkF m 136 #[.val (.int i0), .val (.int i1), .val (.ref fb1), .val (.int (0 : Int32)), .val (.ref a_FRONT_BW), .val (.ref b43), .unset] [(.ref b59), (.int (0 : Int32)), (.ref fb1)])) st73 ?_
    have f79 := ((f70.ext E59).keep Kp73 (ninS ne_fb1_b59 nin0))
    obtain ⟨c80, Ar80, q80, Sz80, Nn80, Hs80, Gs80⟩ := id f79
    have hin80 : ¬ ((0 : Int32) < 0 ∨ c80.slots.size ≤ ((0 : Int32)).toNatClampNeg) := inb_of Sz80 ⟨by decide, by decide⟩
    obtain ⟨T80, h80, X80, e80, W80, st80⟩ := stR X73 hx hZ13 rfl Ar80 (j := (0 : Int32)) hin80 rfl (Sto.ofV Ar80 q80 Ob1 (Ins.self Ex73)) (g := (mkF m 136 #[.val (.int i0), .val (.int i1), .val (.ref fb1), .val (.int (0 : Int32)), .val (.ref a_FRONT_BW), .val (.ref b43), .unset] [(.ref b59), (.int (0 : Int32)), (.ref fb1)])) rfl rfl (hb hby at_136)
    have Sf81 := Safe.wr W80 (Safe.arv hZ13.alike f79 (by decide)) CH78.1 Sf76
    have Sf82 := Safe.wr W80 (Safe.arv hZ13.alike f79 (by decide)) CH78.1 Sf77
    have CH83 := CH78.trans (CHr.wr W80 (Safe.arv hZ13.alike f79 (by decide)) CH78.1)
    have V80 : Arv Z h80 fb1 fk1 (.object "java/lang/String") (3 : Int32) [(.ref b59), (.ref a_BACK_BW_indicator), (.ref a_FRONT_GREY_indicator)] .null := Arv.set Ar80 q80 Sz80 Nn80 Hs80 Gs80 rfl W80 0 rfl (Nat.le_of_ble_eq_true rfl)
    have N80 := Fr.snoc X80 N73 gb1
    have O_80 := O_73.wr W80 gb1
    refine GoesW.step (B := T80.setTop (mkF m 137 #[.val (.int i0), .val (.int i1), .val (.ref fb1), .val (.int (0 : Int32)), .val (.ref a_FRONT_BW), .val (.ref b43), .unset] [])) st80 ?_
    have f85 := E__VALUES.ext O_80.2
    have lt_a__VALUES_84 := f85.lt
    have f86 := E_FRONT_BW.ext O_80.2
    have lt_a_FRONT_BW_84 := f86.lt
    have f87 := E_BACK_BW.ext O_80.2
    have lt_a_BACK_BW_84 := f87.lt
    have f88 := E_FRONT_GREY.ext O_80.2
    have lt_a_FRONT_GREY_84 := f88.lt
    have f89 := E_FRONT_BW_indicator.ext O_80.2
    have lt_a_FRONT_BW_indicator_84 := f89.lt
    have f90 := E_BACK_BW_indicator.ext O_80.2
    have lt_a_BACK_BW_indicator_84 := f90.lt
    have f91 := E_FRONT_GREY_indicator.ext O_80.2
    have lt_a_FRONT_GREY_indicator_84 := f91.lt
    have f92 := V_FRONT_BW_indicator_value.ext O_80.2
    have lt_a_FRONT_BW_indicator_value_84 := f92.lt
    have f93 := V_BACK_BW_indicator_value.ext O_80.2
    have lt_a_BACK_BW_indicator_value_84 := f93.lt
    have f94 := V_FRONT_GREY_indicator_value.ext O_80.2
    have lt_a_FRONT_GREY_indicator_value_84 := f94.lt
    have lt_fb1_84 := V80.lt
    have f95 := ((f74.keep Kp73 (ninS ne_b43_b59 nin0)).other W80 (Ne.symm ne_fb1_b43))
    have lt_b43_84 := f95.lt
    have f96 := (Ex73.wr W80)
    have lt_b59_84 := f96.lt
    obtain ⟨_, _, ⟨T84, L84, k84, n84⟩, -, X84, ⟨Lc84, hQ84, l84, y84, z84⟩, st84⟩ := Jvm.LawKit.callS X80 hx (y := (⟨"com/example/gridclear/gridclear/image/ImageView$Side", "indicators", "()[Ljava/lang/String;"⟩ : MethodName)) hown13 (mvT hZ13 (hw _ (List.mem_of_getElem? (i := 0) rfl))) (mvT hZ13 (hw _ (List.mem_of_getElem? (i := 1) rfl))) (mvT hZ13 (hw _ (List.mem_of_getElem? (i := 2) rfl))) (mvT hZ13 (hw _ (List.mem_of_getElem? (i := 3) rfl))) (by decide) (backOf (W := 0) (rm1 l Z a0 hw [] a__VALUES a_FRONT_BW a_BACK_BW a_FRONT_GREY a_FRONT_BW_indicator a_BACK_BW_indicator a_FRONT_GREY_indicator a_FRONT_BW_indicator_value a_BACK_BW_indicator_value a_FRONT_GREY_indicator_value k__VALUES k_FRONT_BW_indicator_value k_BACK_BW_indicator_value k_FRONT_GREY_indicator_value cs h80 n0 O_80 FS) hZ13 (hw _ (List.mem_of_getElem? (i := 3) rfl)) (hw _ (List.mem_of_getElem? (i := 2) rfl)) (by decide) (by decide)) (g := (mkF m 137 #[.val (.int i0), .val (.int i1), .val (.ref fb1), .val (.int (0 : Int32)), .val (.ref a_FRONT_BW), .val (.ref b43), .unset] [])) rfl (by rw [hml]; rfl) (argsL := []) (rest := []) (lenOf pd_7 rfl) rfl (by show 2 * 0 + _ ≤ _; exact Nat.le_of_eq rfl) (hb hby at_137) (fun _ _ => ⟨rfl, e80, (by decide : 12 + 2 ≤ _), (by decide : 127 + 6 ≤ _)⟩)
    dsimp only [Pt.U, Pt.locs, Pt.cells, Pt.slots] at X84 l84 y84 z84 st84 hQ84
    subst l84 y84 z84
    obtain ⟨fb84, fk84, rfl, Nq84, Kp84, gb84, sb84, Vb84, Ob84⟩ := hQ84
    have ne_a__VALUES_fb84 : a__VALUES ≠ fb84 := Nat.ne_of_lt (Nat.lt_of_lt_of_le lt_a__VALUES_84 sb84)
    have ne_a_FRONT_BW_fb84 : a_FRONT_BW ≠ fb84 := Nat.ne_of_lt (Nat.lt_of_lt_of_le lt_a_FRONT_BW_84 sb84)
    have ne_a_BACK_BW_fb84 : a_BACK_BW ≠ fb84 := Nat.ne_of_lt (Nat.lt_of_lt_of_le lt_a_BACK_BW_84 sb84)
    have ne_a_FRONT_GREY_fb84 : a_FRONT_GREY ≠ fb84 := Nat.ne_of_lt (Nat.lt_of_lt_of_le lt_a_FRONT_GREY_84 sb84)
    have ne_a_FRONT_BW_indicator_fb84 : a_FRONT_BW_indicator ≠ fb84 := Nat.ne_of_lt (Nat.lt_of_lt_of_le lt_a_FRONT_BW_indicator_84 sb84)
    have ne_a_BACK_BW_indicator_fb84 : a_BACK_BW_indicator ≠ fb84 := Nat.ne_of_lt (Nat.lt_of_lt_of_le lt_a_BACK_BW_indicator_84 sb84)
    have ne_a_FRONT_GREY_indicator_fb84 : a_FRONT_GREY_indicator ≠ fb84 := Nat.ne_of_lt (Nat.lt_of_lt_of_le lt_a_FRONT_GREY_indicator_84 sb84)
    have ne_a_FRONT_BW_indicator_value_fb84 : a_FRONT_BW_indicator_value ≠ fb84 := Nat.ne_of_lt (Nat.lt_of_lt_of_le lt_a_FRONT_BW_indicator_value_84 sb84)
    have ne_a_BACK_BW_indicator_value_fb84 : a_BACK_BW_indicator_value ≠ fb84 := Nat.ne_of_lt (Nat.lt_of_lt_of_le lt_a_BACK_BW_indicator_value_84 sb84)
    have ne_a_FRONT_GREY_indicator_value_fb84 : a_FRONT_GREY_indicator_value ≠ fb84 := Nat.ne_of_lt (Nat.lt_of_lt_of_le lt_a_FRONT_GREY_indicator_value_84 sb84)
    have ne_fb1_fb84 : fb1 ≠ fb84 := Nat.ne_of_lt (Nat.lt_of_lt_of_le lt_fb1_84 sb84)
    have ne_b43_fb84 : b43 ≠ fb84 := Nat.ne_of_lt (Nat.lt_of_lt_of_le lt_b43_84 sb84)
    have ne_b59_fb84 : b59 ≠ fb84 := Nat.ne_of_lt (Nat.lt_of_lt_of_le lt_b59_84 sb84)
    have Sf97 := Safe.keep Kp84 sf0 CH83.1 Sf81
    have Sf98 := Safe.keep Kp84 sf0 CH83.1 Sf82
    have CH99 := CH83.trans (CHr.keep Kp84 sf0 CH83.1)
    have O_84 := O_80.keep Kp84 all0
    have N84 := Fr.app N80 Nq84
    refine GoesW.step (B := T84.setTop (mkF m 140 #[.val (.int i0), .val (.int i1), .val (.ref fb1), .val (.int (0 : Int32)), .val (.ref a_FRONT_BW), .val (.ref b43), .unset] [(.ref fb84)])) st84 ?_
    refine GoesW.step (B := T84.setTop (mkF m 142 #[.val (.int i0), .val (.int i1), .val (.ref fb1), .val (.int (0 : Int32)), .val (.ref a_FRONT_BW), .val (.ref b43), .val (.ref fb84)] [])) (fun _ k => XS.astore X84.here hx rfl (hb hby at_140) rfl rfl (l' := #[.val (.int i0), .val (.int i1), .val (.ref fb1), .val (.int (0 : Int32)), .val (.ref a_FRONT_BW), .val (.ref b43), .val (.ref fb84)]) rfl k) ?_
    refine GoesW.step (B := T84.setTop (mkF m 144 #[.val (.int i0), .val (.int i1), .val (.ref fb1), .val (.int (0 : Int32)), .val (.ref a_FRONT_BW), .val (.ref b43), .val (.ref fb84)] [(.ref fb84)])) (fun _ k => XS.aload X84.here hx rfl (hb hby at_142) rfl rfl k) ?_
    refine GoesW.step (B := T84.setTop (mkF m 145 #[.val (.int i0), .val (.int i1), .val (.ref fb1), .val (.int (0 : Int32)), .val (.ref a_FRONT_BW), .val (.ref b43), .val (.ref fb84)] [(.ref fb1), (.ref fb84)])) (fun _ k => XS.aloadN X84.here hx rfl (hb hby at_144) rfl rfl k) ?_
    refine GoesW.step (B := T84.setTop (mkF m 150 #[.val (.int i0), .val (.int i1), .val (.ref fb1), .val (.int (0 : Int32)), .val (.ref a_FRONT_BW), .val (.ref b43), .val (.ref fb84)] [])) (fun _ k => Jvm.RoadKit.acmp (g := (mkF m 145 #[.val (.int i0), .val (.int i1), .val (.ref fb1), .val (.int (0 : Int32)), .val (.ref a_FRONT_BW), .val (.ref b43), .val (.ref fb84)] [(.ref fb1), (.ref fb84)])) X84 hx rfl rfl rfl (pc0 := 145) (pc' := 150) (same := false) rfl (hb hby at_145) rfl (decide_eq_false fun q => (Ne.symm ne_fb1_fb84) (Value.ref.inj q)) (by decide) (by decide) k) ?_
    refine GoesW.step (B := T84.setTop (mkF m 152 #[.val (.int i0), .val (.int i1), .val (.ref fb1), .val (.int (0 : Int32)), .val (.ref a_FRONT_BW), .val (.ref b43), .val (.ref fb84)] [(.ref fb84)])) (fun _ k => XS.aload X84.here hx rfl (hb hby at_150) rfl rfl k) ?_
    obtain ⟨_, vw100, ⟨T100, L100, k100, n100⟩, -, Xr100, S2100, sz100, ⟨Lc100, hQ100, l100, y100, z100, Hc100⟩, st100⟩ := callSS X84 hx (y := (⟨"com/example/gridclear/gridclear/image/SideIndicatorsPinLaw", "exact", "([Ljava/lang/String;)Z"⟩ : MethodName)) hown13 (mvT hZ13 (hw _ (List.mem_of_getElem? (i := 27) rfl))) (mvT hZ13 (hw _ (List.mem_of_getElem? (i := 28) rfl))) (mvT hZ13 (hw _ (List.mem_of_getElem? (i := 29) rfl))) (mvT hZ13 (hw _ (List.mem_of_getElem? (i := 30) rfl))) (by decide) (backOfSH (W := 0) (rm3 l Z a0 hw [] fb84 fk84 a__VALUES a_FRONT_BW a_BACK_BW a_FRONT_GREY a_FRONT_BW_indicator a_BACK_BW_indicator a_FRONT_GREY_indicator a_FRONT_BW_indicator_value a_BACK_BW_indicator_value a_FRONT_GREY_indicator_value k__VALUES k_FRONT_BW_indicator_value k_BACK_BW_indicator_value k_FRONT_GREY_indicator_value cs T84.heap n0 O_84 FS Vb84) hZ13 (hw _ (List.mem_of_getElem? (i := 30) rfl)) (hw _ (List.mem_of_getElem? (i := 29) rfl)) (by decide) (by decide) (own_EW hw) CH99.1) (g := (mkF m 152 #[.val (.int i0), .val (.int i1), .val (.ref fb1), .val (.int (0 : Int32)), .val (.ref a_FRONT_BW), .val (.ref b43), .val (.ref fb84)] [(.ref fb84)])) rfl (by rw [hml]; rfl) (argsL := [(.ref fb84)]) (rest := []) (lenOf pd_8 rfl) rfl (by show 2 * 0 + _ ≤ _; exact Nat.le_of_eq rfl) (hb hby at_152) (fun _ _ => ⟨rfl, rfl, (by decide : 14 + 6 ≤ _), (by decide : 133 + 112 ≤ _)⟩)
    dsimp only [Pt.U, Pt.locs, Pt.cells, Pt.slots] at Xr100 S2100 sz100 l100 y100 z100 st100 hQ100 Hc100
    subst l100 y100 z100
    obtain ⟨X100, hS100, hZ100, hown100⟩ := rebS hS13 (by exact (Nat.le_trans (Nat.le_trans (Nat.le_trans (Nat.le_trans (Nat.le_trans (Nat.le_trans (Nat.le_trans (Nat.le_refl _) Kp41.1) E43.1) (Nat.le_of_eq W56.size.symm)) E59.1) Kp73.1) (Nat.le_of_eq W80.size.symm)) Kp84.1)) Xr100 S2100 sz100 hZ13 hown13
    have CHc100 := CH99.trans Hc100
    obtain ⟨rfl, Nq100, Kp100⟩ := hQ100
    have f102 := (f95.keep Kp84 nin0)
    have Sf101 := CHr.safe Hc100 f102.lt Sf97
    have f104 := (f96.keep Kp84)
    have Sf103 := CHr.safe Hc100 f104.lt Sf98
    have O_100 := O_84.keep Kp100 all0
    have N100 := Fr.app N84 Nq100
    refine GoesW.via (B := T100.setTop (mkF m 155 #[.val (.int i0), .val (.int i1), .val (.ref fb1), .val (.int (0 : Int32)), .val (.ref a_FRONT_BW), .val (.ref b43), .val (.ref fb84)] [(.int (1 : Int32))])) st100 ?_
    exact GoesW.retN X100 hS100 (Nat.le_refl _) hx rfl (t := .boolean) Bd.returns (by simp) hlk (hb hby at_155) (by decide) (by decide) (⟨rfl, N100⟩)
  · refine GoesW.step (B := T37.setTop (mkF m 67 #[.val (.int i0), .val (.int i1), .val (.ref fb1), .val (.int (1 : Int32)), .unset, .unset, .unset] [])) (fun _ k => XS.istoreN X37.here hx rfl (hb hby at_66) rfl (l' := #[.val (.int i0), .val (.int i1), .val (.ref fb1), .val (.int (1 : Int32)), .unset, .unset, .unset]) rfl k) ?_
    refine GoesW.step (B := T37.setTop (mkF m 68 #[.val (.int i0), .val (.int i1), .val (.ref fb1), .val (.int (1 : Int32)), .unset, .unset, .unset] [(.int (1 : Int32))])) (fun _ k => XS.iloadN X37.here hx rfl (hb hby at_67) rfl k) ?_
    refine GoesW.step (B := T37.setTop (mkF m 79 #[.val (.int i0), .val (.int i1), .val (.ref fb1), .val (.int (1 : Int32)), .unset, .unset, .unset] [])) (fun _ k => XS.ifYes X37.here hx rfl (pc0 := 68) (pc' := 79) rfl (hb hby at_68) rfl ((if0 _ _).trans (feq (by decide)).2) (by decide) (by decide) k) ?_
    refine GoesW.step (B := T37.setTop (mkF m 80 #[.val (.int i0), .val (.int i1), .val (.ref fb1), .val (.int (1 : Int32)), .unset, .unset, .unset] [(.int (1 : Int32))])) (fun _ k => XS.iloadN X37.here hx rfl (hb hby at_79) rfl k) ?_
    refine GoesW.step (B := T37.setTop (mkF m 81 #[.val (.int i0), .val (.int i1), .val (.ref fb1), .val (.int (1 : Int32)), .unset, .unset, .unset] [(.int (1 : Int32)), (.int (1 : Int32))])) (fun _ k => XS.iconst X37.here hx rfl (hb hby at_80) k) ?_
    refine GoesW.step (B := T37.setTop (mkF m 84 #[.val (.int i0), .val (.int i1), .val (.ref fb1), .val (.int (1 : Int32)), .unset, .unset, .unset] [])) (fun _ k => XS.icmpNo X37.here hx rfl (hb hby at_81) rfl (teq (by decide)).2 k) ?_
    obtain ⟨T105, X105, e105, st105⟩ := getS2 X37 hx hZ13 hown13 (host := "") (Or.inl (hw _ (List.mem_of_getElem? (i := 60) rfl))) Via.refl eh37 f24 (g := (mkF m 84 #[.val (.int i0), .val (.int i1), .val (.ref fb1), .val (.int (1 : Int32)), .unset, .unset, .unset] [])) rfl (hb hby at_84)
    refine GoesW.step (B := T105.setTop (mkF m 87 #[.val (.int i0), .val (.int i1), .val (.ref fb1), .val (.int (1 : Int32)), .unset, .unset, .unset] [(.ref a_BACK_BW)])) st105 ?_
    refine GoesW.step (B := T105.setTop (mkF m 89 #[.val (.int i0), .val (.int i1), .val (.ref fb1), .val (.int (1 : Int32)), .val (.ref a_BACK_BW), .unset, .unset] [])) (fun _ k => XS.astore X105.here hx rfl (hb hby at_87) rfl rfl (l' := #[.val (.int i0), .val (.int i1), .val (.ref fb1), .val (.int (1 : Int32)), .val (.ref a_BACK_BW), .unset, .unset]) rfl k) ?_
    refine GoesW.step (B := T105.setTop (mkF m 97 #[.val (.int i0), .val (.int i1), .val (.ref fb1), .val (.int (1 : Int32)), .val (.ref a_BACK_BW), .unset, .unset] [])) (fun _ k => XS.goto X105.here hx rfl (pc0 := 89) (pc' := 97) rfl (hb hby at_89) (by decide) (by decide) k) ?_
    refine GoesW.step (B := T105.setTop (mkF m 98 #[.val (.int i0), .val (.int i1), .val (.ref fb1), .val (.int (1 : Int32)), .val (.ref a_BACK_BW), .unset, .unset] [(.ref fb1)])) (fun _ k => XS.aloadN X105.here hx rfl (hb hby at_97) rfl rfl k) ?_
    refine GoesW.step (B := T105.setTop (mkF m 99 #[.val (.int i0), .val (.int i1), .val (.ref fb1), .val (.int (1 : Int32)), .val (.ref a_BACK_BW), .unset, .unset] [(.int (1 : Int32)), (.ref fb1)])) (fun _ k => XS.iloadN X105.here hx rfl (hb hby at_98) rfl k) ?_
    obtain ⟨c106, Ar106, -, Sz106, Nn106, Hs106, -⟩ := id f14
    have hin106 : ¬ ((1 : Int32) < 0 ∨ c106.slots.size ≤ ((1 : Int32)).toNatClampNeg) := inb_of Sz106 ⟨by decide, by decide⟩
    refine GoesW.step (B := T105.setTop (mkF m 100 #[.val (.int i0), .val (.int i1), .val (.ref fb1), .val (.int (1 : Int32)), .val (.ref a_BACK_BW), .unset, .unset] [(.ref a_BACK_BW_indicator)])) (X105.aaload hx (j := (1 : Int32)) (v := (.ref a_BACK_BW_indicator)) (by rw [e105]; exact Ar106.1) (State.isArrayOf_alike hZ13.alike Ar106.2.1) rfl Ar106.2.2 hin106 (Has.at Hs106 hin106 rfl) (g := (mkF m 99 #[.val (.int i0), .val (.int i1), .val (.ref fb1), .val (.int (1 : Int32)), .val (.ref a_BACK_BW), .unset, .unset] [(.int (1 : Int32)), (.ref fb1)])) rfl rfl (hb hby at_99)) ?_
    obtain ⟨_, _, ⟨T107, L107, k107, n107⟩, -, X107, ⟨Lc107, hQ107, l107, y107, z107⟩, st107⟩ := Jvm.LawKit.callS X105 hx (y := (⟨"com/example/gridclear/gridclear/image/ImageView$Side", "of", "(Ljava/lang/String;)Lcom/example/gridclear/gridclear/image/ImageView$Side;"⟩ : MethodName)) hown13 (mvT hZ13 (hw _ (List.mem_of_getElem? (i := 63) rfl))) (mvT hZ13 (hw _ (List.mem_of_getElem? (i := 64) rfl))) (mvT hZ13 (hw _ (List.mem_of_getElem? (i := 2) rfl))) (mvT hZ13 (hw _ (List.mem_of_getElem? (i := 65) rfl))) (by decide) (backOf (W := 0) (rmOf1 l Z a0 hw [] a__VALUES a_FRONT_BW a_BACK_BW a_FRONT_GREY a_FRONT_BW_indicator a_BACK_BW_indicator a_FRONT_GREY_indicator a_FRONT_BW_indicator_value a_BACK_BW_indicator_value a_FRONT_GREY_indicator_value k__VALUES k_FRONT_BW_indicator_value k_BACK_BW_indicator_value k_FRONT_GREY_indicator_value cs T13.heap n0 O_13 FS) hZ13 (hw _ (List.mem_of_getElem? (i := 65) rfl)) (hw _ (List.mem_of_getElem? (i := 2) rfl)) (by decide) (by decide)) (g := (mkF m 100 #[.val (.int i0), .val (.int i1), .val (.ref fb1), .val (.int (1 : Int32)), .val (.ref a_BACK_BW), .unset, .unset] [(.ref a_BACK_BW_indicator)])) rfl (by rw [hml]; rfl) (argsL := [(.ref a_BACK_BW_indicator)]) (rest := []) (lenOf pd_10 rfl) rfl (by show 2 * 0 + _ ≤ _; exact Nat.le_of_eq rfl) (hb hby at_100) (fun _ _ => ⟨rfl, e105, (by decide : 8 + 1 ≤ _), (by decide : 118 + 3 ≤ _)⟩)
    dsimp only [Pt.U, Pt.locs, Pt.cells, Pt.slots] at X107 l107 y107 z107 st107 hQ107
    subst l107 y107 z107
    obtain ⟨rfl, Nq107, Kp107⟩ := hQ107
    have CH108 := CHc13.trans (CHr.keep Kp107 sf0 CHc13.1)
    have O_107 := O_13.keep Kp107 all0
    have N107 := Fr.app N37 Nq107
    refine GoesW.step (B := T107.setTop (mkF m 103 #[.val (.int i0), .val (.int i1), .val (.ref fb1), .val (.int (1 : Int32)), .val (.ref a_BACK_BW), .unset, .unset] [(.ref a_BACK_BW)])) st107 ?_
    refine GoesW.step (B := T107.setTop (mkF m 105 #[.val (.int i0), .val (.int i1), .val (.ref fb1), .val (.int (1 : Int32)), .val (.ref a_BACK_BW), .unset, .unset] [(.ref a_BACK_BW), (.ref a_BACK_BW)])) (fun _ k => XS.aload X107.here hx rfl (hb hby at_103) rfl rfl k) ?_
    refine GoesW.step (B := T107.setTop (mkF m 110 #[.val (.int i0), .val (.int i1), .val (.ref fb1), .val (.int (1 : Int32)), .val (.ref a_BACK_BW), .unset, .unset] [])) (fun _ k => Jvm.RoadKit.acmp (g := (mkF m 105 #[.val (.int i0), .val (.int i1), .val (.ref fb1), .val (.int (1 : Int32)), .val (.ref a_BACK_BW), .unset, .unset] [(.ref a_BACK_BW), (.ref a_BACK_BW)])) X107 hx rfl rfl rfl (pc0 := 105) (pc' := 110) (same := true) rfl (hb hby at_105) rfl (decide_eq_true rfl) (by decide) (by decide) k) ?_
    refine GoesW.step (B := T107.setTop (mkF m 111 #[.val (.int i0), .val (.int i1), .val (.ref fb1), .val (.int (1 : Int32)), .val (.ref a_BACK_BW), .unset, .unset] [(.int (1 : Int32))])) (fun _ k => XS.iconst X107.here hx rfl (hb hby at_110) k) ?_
    obtain ⟨T109, h109, k109, X109, e109, E109, A109, st109⟩ := newP X107 hx hZ13 (hw _ (List.mem_of_getElem? (i := 67) rfl)) rfl (g := (mkF m 111 #[.val (.int i0), .val (.int i1), .val (.ref fb1), .val (.int (1 : Int32)), .val (.ref a_BACK_BW), .unset, .unset] [(.int (1 : Int32))])) rfl (hb hby at_111) rfl (by decide) (cap := 1) (by decide) (by decide) (by decide) (by decide)
    obtain ⟨b109, g109⟩ : ∃ z, z = T107.heap.size := ⟨_, rfl⟩
    rw [← g109] at A109 st109
    have f110 := E__VALUES.ext O_107.2
    have ne_a__VALUES_b109 : a__VALUES ≠ b109 := Nat.ne_of_lt (Nat.lt_of_lt_of_le f110.lt (Nat.le_of_eq g109.symm))
    have f111 := E_FRONT_BW.ext O_107.2
    have ne_a_FRONT_BW_b109 : a_FRONT_BW ≠ b109 := Nat.ne_of_lt (Nat.lt_of_lt_of_le f111.lt (Nat.le_of_eq g109.symm))
    have f112 := E_BACK_BW.ext O_107.2
    have ne_a_BACK_BW_b109 : a_BACK_BW ≠ b109 := Nat.ne_of_lt (Nat.lt_of_lt_of_le f112.lt (Nat.le_of_eq g109.symm))
    have f113 := E_FRONT_GREY.ext O_107.2
    have ne_a_FRONT_GREY_b109 : a_FRONT_GREY ≠ b109 := Nat.ne_of_lt (Nat.lt_of_lt_of_le f113.lt (Nat.le_of_eq g109.symm))
    have f114 := E_FRONT_BW_indicator.ext O_107.2
    have ne_a_FRONT_BW_indicator_b109 : a_FRONT_BW_indicator ≠ b109 := Nat.ne_of_lt (Nat.lt_of_lt_of_le f114.lt (Nat.le_of_eq g109.symm))
    have f115 := E_BACK_BW_indicator.ext O_107.2
    have ne_a_BACK_BW_indicator_b109 : a_BACK_BW_indicator ≠ b109 := Nat.ne_of_lt (Nat.lt_of_lt_of_le f115.lt (Nat.le_of_eq g109.symm))
    have f116 := E_FRONT_GREY_indicator.ext O_107.2
    have ne_a_FRONT_GREY_indicator_b109 : a_FRONT_GREY_indicator ≠ b109 := Nat.ne_of_lt (Nat.lt_of_lt_of_le f116.lt (Nat.le_of_eq g109.symm))
    have f117 := V_FRONT_BW_indicator_value.ext O_107.2
    have ne_a_FRONT_BW_indicator_value_b109 : a_FRONT_BW_indicator_value ≠ b109 := Nat.ne_of_lt (Nat.lt_of_lt_of_le f117.lt (Nat.le_of_eq g109.symm))
    have f118 := V_BACK_BW_indicator_value.ext O_107.2
    have ne_a_BACK_BW_indicator_value_b109 : a_BACK_BW_indicator_value ≠ b109 := Nat.ne_of_lt (Nat.lt_of_lt_of_le f118.lt (Nat.le_of_eq g109.symm))
    have f119 := V_FRONT_GREY_indicator_value.ext O_107.2
    have ne_a_FRONT_GREY_indicator_value_b109 : a_FRONT_GREY_indicator_value ≠ b109 := Nat.ne_of_lt (Nat.lt_of_lt_of_le f119.lt (Nat.le_of_eq g109.symm))
    have f120 := (f14.keep Kp107 nin0)
    have ne_fb1_b109 : fb1 ≠ b109 := Nat.ne_of_lt (Nat.lt_of_lt_of_le f120.lt (Nat.le_of_eq g109.symm))
    have g_b109 : n0 ≤ b109 := Nat.le_trans (own_z O_107) (Nat.le_of_eq g109.symm)
    have Sf_b109 := Safe.ext E109 CH108.1 (Safe.new (Nat.le_of_eq g109.symm))
    have CH121 := CH108.trans (CHr.ext E109 CH108.1)
    have O_109 := O_107.ext E109
    have V_b109 : Arv Z h109 b109 k109 .char (1 : Int32) [(.int (0 : Int32))] (.int (0 : Int32)) := (Arv.new A109 (by decide)).pad (pad_rep [] (.int (0 : Int32)) 1)
    refine GoesW.step (B := T109.setTop (mkF m 113 #[.val (.int i0), .val (.int i1), .val (.ref fb1), .val (.int (1 : Int32)), .val (.ref a_BACK_BW), .unset, .unset] [(.ref b109)])) st109 ?_
    refine GoesW.step (B := T109.setTop (mkF m 115 #[.val (.int i0), .val (.int i1), .val (.ref fb1), .val (.int (1 : Int32)), .val (.ref a_BACK_BW), .val (.ref b109), .unset] [])) (fun _ k => XS.astore X109.here hx rfl (hb hby at_113) rfl rfl (l' := #[.val (.int i0), .val (.int i1), .val (.ref fb1), .val (.int (1 : Int32)), .val (.ref a_BACK_BW), .val (.ref b109), .unset]) rfl k) ?_
    refine GoesW.step (B := T109.setTop (mkF m 117 #[.val (.int i0), .val (.int i1), .val (.ref fb1), .val (.int (1 : Int32)), .val (.ref a_BACK_BW), .val (.ref b109), .unset] [(.ref b109)])) (fun _ k => XS.aload X109.here hx rfl (hb hby at_115) rfl rfl k) ?_
    refine GoesW.step (B := T109.setTop (mkF m 118 #[.val (.int i0), .val (.int i1), .val (.ref fb1), .val (.int (1 : Int32)), .val (.ref a_BACK_BW), .val (.ref b109), .unset] [(.int (0 : Int32)), (.ref b109)])) (fun _ k => XS.iconst X109.here hx rfl (hb hby at_117) k) ?_
    refine GoesW.step (B := T109.setTop (mkF m 119 #[.val (.int i0), .val (.int i1), .val (.ref fb1), .val (.int (1 : Int32)), .val (.ref a_BACK_BW), .val (.ref b109), .unset] [(.int i1), (.int (0 : Int32)), (.ref b109)])) (fun _ k => XS.iloadN X109.here hx rfl (hb hby at_118) rfl k) ?_
    refine GoesW.step (B := T109.setTop (mkF m 122 #[.val (.int i0), .val (.int i1), .val (.ref fb1), .val (.int (1 : Int32)), .val (.ref a_BACK_BW), .val (.ref b109), .unset] [(.int (255 : Int32)), (.int i1), (.int (0 : Int32)), (.ref b109)])) (fun _ k => XS.sipush X109.here hx rfl (hb hby at_119) k) ?_
    refine GoesW.step (B := T109.setTop (mkF m 123 #[.val (.int i0), .val (.int i1), .val (.ref fb1), .val (.int (1 : Int32)), .val (.ref a_BACK_BW), .val (.ref b109), .unset] [(.int (i1 &&& (255 : Int32))), (.int (0 : Int32)), (.ref b109)])) (fun _ k => XS.iand X109.here hx rfl (hb hby at_122) rfl k) ?_
    refine GoesW.step (B := T109.setTop (mkF m 124 #[.val (.int i0), .val (.int i1), .val (.ref fb1), .val (.int (1 : Int32)), .val (.ref a_BACK_BW), .val (.ref b109), .unset] [(.int (i1 &&& (255 : Int32)).toUInt32.toUInt16.toUInt32.toInt32), (.int (0 : Int32)), (.ref b109)])) (fun _ k => XS.i2c X109.here hx rfl (hb hby at_123) rfl k) ?_
    obtain ⟨cv, hcv⟩ : ∃ z, z = (i1 &&& (255 : Int32)).toUInt32.toUInt16.toUInt32.toInt32 := ⟨_, rfl⟩
    rw [← hcv]
    have hch := own_ch hcv
    obtain ⟨c122, Ar122, q122, Sz122, Nn122, Hs122, Gs122⟩ := id V_b109
    have hin122 : ¬ ((0 : Int32) < 0 ∨ c122.slots.size ≤ ((0 : Int32)).toNatClampNeg) := inb_of Sz122 ⟨by decide, by decide⟩
    obtain ⟨T122, h122, X122, e122, W122, st122⟩ := stC X109 hx hZ13 e109 Ar122 (j := (0 : Int32)) hin122 (g := (mkF m 124 #[.val (.int i0), .val (.int i1), .val (.ref fb1), .val (.int (1 : Int32)), .val (.ref a_BACK_BW), .val (.ref b109), .unset] [(.int cv), (.int (0 : Int32)), (.ref b109)])) rfl rfl (hb hby at_124)
    have Sf123 := Safe.wr W122 Sf_b109 CH121.1 Sf_b109
    have CH124 := CH121.trans (CHr.wr W122 Sf_b109 CH121.1)
    have V122 : Arv Z h122 b109 k109 .char (1 : Int32) [(.int (nar .char cv))] (.int (0 : Int32)) := Arv.set Ar122 q122 Sz122 Nn122 Hs122 Gs122 (fits_nar_char _) W122 0 rfl (Nat.le_of_ble_eq_true rfl)
    have N122 := Fr.snoc X122 N107 g_b109
    have O_122 := O_109.wr W122 g_b109
    refine GoesW.step (B := T122.setTop (mkF m 125 #[.val (.int i0), .val (.int i1), .val (.ref fb1), .val (.int (1 : Int32)), .val (.ref a_BACK_BW), .val (.ref b109), .unset] [])) st122 ?_
    refine GoesW.step (B := T122.setTop (mkF m 126 #[.val (.int i0), .val (.int i1), .val (.ref fb1), .val (.int (1 : Int32)), .val (.ref a_BACK_BW), .val (.ref b109), .unset] [(.ref fb1)])) (fun _ k => XS.aloadN X122.here hx rfl (hb hby at_125) rfl rfl k) ?_
    refine GoesW.step (B := T122.setTop (mkF m 127 #[.val (.int i0), .val (.int i1), .val (.ref fb1), .val (.int (1 : Int32)), .val (.ref a_BACK_BW), .val (.ref b109), .unset] [(.int (1 : Int32)), (.ref fb1)])) (fun _ k => XS.iloadN X122.here hx rfl (hb hby at_126) rfl k) ?_
    obtain ⟨T125, h125, X125, e125, E125, A125, D125, -, st125⟩ := newO X122 hx hZ13 hown13 (hw _ (List.mem_of_getElem? (i := 68) rfl)) (hw _ (List.mem_of_getElem? (i := 33) rfl)) (hw _ (List.mem_of_getElem? (i := 32) rfl)) e122 (g := (mkF m 127 #[.val (.int i0), .val (.int i1), .val (.ref fb1), .val (.int (1 : Int32)), .val (.ref a_BACK_BW), .val (.ref b109), .unset] [(.int (1 : Int32)), (.ref fb1)])) rfl (hb hby at_127) (by decide) (by decide)
    obtain ⟨b125, g125⟩ : ∃ z, z = h122.size := ⟨_, rfl⟩
    rw [← g125] at A125 D125 st125
    have f126 := E__VALUES.ext O_122.2
    have ne_a__VALUES_b125 : a__VALUES ≠ b125 := Nat.ne_of_lt (Nat.lt_of_lt_of_le f126.lt (Nat.le_of_eq g125.symm))
    have f127 := E_FRONT_BW.ext O_122.2
    have ne_a_FRONT_BW_b125 : a_FRONT_BW ≠ b125 := Nat.ne_of_lt (Nat.lt_of_lt_of_le f127.lt (Nat.le_of_eq g125.symm))
    have f128 := E_BACK_BW.ext O_122.2
    have ne_a_BACK_BW_b125 : a_BACK_BW ≠ b125 := Nat.ne_of_lt (Nat.lt_of_lt_of_le f128.lt (Nat.le_of_eq g125.symm))
    have f129 := E_FRONT_GREY.ext O_122.2
    have ne_a_FRONT_GREY_b125 : a_FRONT_GREY ≠ b125 := Nat.ne_of_lt (Nat.lt_of_lt_of_le f129.lt (Nat.le_of_eq g125.symm))
    have f130 := E_FRONT_BW_indicator.ext O_122.2
    have ne_a_FRONT_BW_indicator_b125 : a_FRONT_BW_indicator ≠ b125 := Nat.ne_of_lt (Nat.lt_of_lt_of_le f130.lt (Nat.le_of_eq g125.symm))
    have f131 := E_BACK_BW_indicator.ext O_122.2
    have ne_a_BACK_BW_indicator_b125 : a_BACK_BW_indicator ≠ b125 := Nat.ne_of_lt (Nat.lt_of_lt_of_le f131.lt (Nat.le_of_eq g125.symm))
    have f132 := E_FRONT_GREY_indicator.ext O_122.2
    have ne_a_FRONT_GREY_indicator_b125 : a_FRONT_GREY_indicator ≠ b125 := Nat.ne_of_lt (Nat.lt_of_lt_of_le f132.lt (Nat.le_of_eq g125.symm))
    have f133 := V_FRONT_BW_indicator_value.ext O_122.2
    have ne_a_FRONT_BW_indicator_value_b125 : a_FRONT_BW_indicator_value ≠ b125 := Nat.ne_of_lt (Nat.lt_of_lt_of_le f133.lt (Nat.le_of_eq g125.symm))
    have f134 := V_BACK_BW_indicator_value.ext O_122.2
    have ne_a_BACK_BW_indicator_value_b125 : a_BACK_BW_indicator_value ≠ b125 := Nat.ne_of_lt (Nat.lt_of_lt_of_le f134.lt (Nat.le_of_eq g125.symm))
    have f135 := V_FRONT_GREY_indicator_value.ext O_122.2
    have ne_a_FRONT_GREY_indicator_value_b125 : a_FRONT_GREY_indicator_value ≠ b125 := Nat.ne_of_lt (Nat.lt_of_lt_of_le f135.lt (Nat.le_of_eq g125.symm))
    have f136 := ((f120.ext E109).other W122 ne_fb1_b109)
    have ne_fb1_b125 : fb1 ≠ b125 := Nat.ne_of_lt (Nat.lt_of_lt_of_le f136.lt (Nat.le_of_eq g125.symm))
    have ne_b109_b125 : b109 ≠ b125 := Nat.ne_of_lt (Nat.lt_of_lt_of_le V122.lt (Nat.le_of_eq g125.symm))
    have g_b125 : n0 ≤ b125 := Nat.le_trans (own_z O_122) (Nat.le_of_eq g125.symm)
    have Sf_b125 := Safe.ext E125 CH124.1 (Safe.new (Nat.le_of_eq g125.symm))
    have Sf137 := Safe.ext E125 CH124.1 Sf123
    have CH138 := CH124.trans (CHr.ext E125 CH124.1)
    have O_125 := O_122.ext E125
    have F125_value : Fld Z h125 b125 "java/lang/String" "value" "[B" .null := D125 (Or.inr (hw _ (List.mem_of_getElem? (i := 35) rfl))) (ty := (.array .byte)) (by decide)
    have F125_coder : Fld Z h125 b125 "java/lang/String" "coder" "B" (.int (0 : Int32)) := D125 (Or.inr (hw _ (List.mem_of_getElem? (i := 36) rfl))) (ty := .byte) (by decide)
    refine GoesW.step (B := T125.setTop (mkF m 130 #[.val (.int i0), .val (.int i1), .val (.ref fb1), .val (.int (1 : Int32)), .val (.ref a_BACK_BW), .val (.ref b109), .unset] [(.ref b125), (.int (1 : Int32)), (.ref fb1)])) st125 ?_
    refine GoesW.step (B := T125.setTop (mkF m 131 #[.val (.int i0), .val (.int i1), .val (.ref fb1), .val (.int (1 : Int32)), .val (.ref a_BACK_BW), .val (.ref b109), .unset] [(.ref b125), (.ref b125), (.int (1 : Int32)), (.ref fb1)])) (fun _ k => XS.dup X125.here hx rfl (hb hby at_130) rfl rfl k) ?_
    refine GoesW.step (B := T125.setTop (mkF m 133 #[.val (.int i0), .val (.int i1), .val (.ref fb1), .val (.int (1 : Int32)), .val (.ref a_BACK_BW), .val (.ref b109), .unset] [(.ref b109), (.ref b125), (.ref b125), (.int (1 : Int32)), (.ref fb1)])) (fun _ k => XS.aload X125.here hx rfl (hb hby at_131) rfl rfl k) ?_
    have f140 := (V122.ext E125)
    have f141 := S_COMPACT_STRINGS.ext O_125.2
    obtain ⟨_, _, ⟨T139, L139, k139, n139⟩, -, X139, ⟨Lc139, hQ139, l139, y139, z139⟩, st139⟩ := X125.specialBack hx (y := (⟨"java/lang/String", "<init>", "([C)V"⟩ : MethodName)) rfl hown13 (mvT hZ13 (hw _ (List.mem_of_getElem? (i := 69) rfl))) (mvT hZ13 (hw _ (List.mem_of_getElem? (i := 70) rfl))) (mvT hZ13 (hw _ (List.mem_of_getElem? (i := 71) rfl))) (by decide) (backOf (W := 3) (rmSI l Z a0 hw [] b125 b109 k109 (nar .char cv) cs h125 n0 O_125 A125 g_b125 F125_value F125_coder f140 hch f141 hcs) hZ13 (hw _ (List.mem_of_getElem? (i := 71) rfl)) (hw _ (List.mem_of_getElem? (i := 32) rfl)) (by decide) (by decide)) (g := (mkF m 133 #[.val (.int i0), .val (.int i1), .val (.ref fb1), .val (.int (1 : Int32)), .val (.ref a_BACK_BW), .val (.ref b109), .unset] [(.ref b109), (.ref b125), (.ref b125), (.int (1 : Int32)), (.ref fb1)])) rfl (by rw [hml]; rfl) (Steps.refl _) (a := b125) (argsL := [(.ref b109)]) (rest := [(.ref b125), (.int (1 : Int32)), (.ref fb1)]) (lenOf pd_11 rfl) rfl (by show 2 * 0 + _ ≤ _; exact Nat.le_of_eq rfl) (hb hby at_133) (fun _ _ => ⟨rfl, e125, (by decide : 11 + 1 ≤ _), (by decide : 126 + 1 ≤ _)⟩)
    dsimp only [Pt.U, Pt.locs, Pt.cells, Pt.slots] at X139 l139 y139 z139 st139 hQ139
    subst l139 y139 z139
    obtain ⟨rfl, Nq139, Kp139, Ex139⟩ := hQ139
    have Sf142 := Safe.keep Kp139 (sfS Sf_b125 sf0) CH138.1 Sf137
    have Sf143 := Safe.keep Kp139 (sfS Sf_b125 sf0) CH138.1 Sf_b125
    have CH144 := CH138.trans (CHr.keep Kp139 (sfS Sf_b125 sf0) CH138.1)
    have O_139 := O_125.keep Kp139 (allS g_b125 all0)
    have N139 := Fr.app N122 Nq139
    refine GoesW.via (B := T139.setTop (mkF m 136 #[.val (.int i0), .val (.int i1), .val (.ref fb1), .val (.int (1 : Int32)), .val (.ref a_BACK_BW), .val (.ref b109), .unset] [(.ref b125), (.int (1 : Int32)), (.ref fb1)])) st139 ?_
    have f145 := ((f136.ext E125).keep Kp139 (ninS ne_fb1_b125 nin0))
    obtain ⟨c146, Ar146, q146, Sz146, Nn146, Hs146, Gs146⟩ := id f145
    have hin146 : ¬ ((1 : Int32) < 0 ∨ c146.slots.size ≤ ((1 : Int32)).toNatClampNeg) := inb_of Sz146 ⟨by decide, by decide⟩
    obtain ⟨T146, h146, X146, e146, W146, st146⟩ := stR X139 hx hZ13 rfl Ar146 (j := (1 : Int32)) hin146 rfl (Sto.ofV Ar146 q146 Ob1 (Ins.self Ex139)) (g := (mkF m 136 #[.val (.int i0), .val (.int i1), .val (.ref fb1), .val (.int (1 : Int32)), .val (.ref a_BACK_BW), .val (.ref b109), .unset] [(.ref b125), (.int (1 : Int32)), (.ref fb1)])) rfl rfl (hb hby at_136)
    have Sf147 := Safe.wr W146 (Safe.arv hZ13.alike f145 (by decide)) CH144.1 Sf142
    have Sf148 := Safe.wr W146 (Safe.arv hZ13.alike f145 (by decide)) CH144.1 Sf143
    have CH149 := CH144.trans (CHr.wr W146 (Safe.arv hZ13.alike f145 (by decide)) CH144.1)
    have V146 : Arv Z h146 fb1 fk1 (.object "java/lang/String") (3 : Int32) [(.ref a_FRONT_BW_indicator), (.ref b125), (.ref a_FRONT_GREY_indicator)] .null := Arv.set Ar146 q146 Sz146 Nn146 Hs146 Gs146 rfl W146 1 rfl (Nat.le_of_ble_eq_true rfl)
    have N146 := Fr.snoc X146 N139 gb1
    have O_146 := O_139.wr W146 gb1
    refine GoesW.step (B := T146.setTop (mkF m 137 #[.val (.int i0), .val (.int i1), .val (.ref fb1), .val (.int (1 : Int32)), .val (.ref a_BACK_BW), .val (.ref b109), .unset] [])) st146 ?_
    have f151 := E__VALUES.ext O_146.2
    have lt_a__VALUES_150 := f151.lt
    have f152 := E_FRONT_BW.ext O_146.2
    have lt_a_FRONT_BW_150 := f152.lt
    have f153 := E_BACK_BW.ext O_146.2
    have lt_a_BACK_BW_150 := f153.lt
    have f154 := E_FRONT_GREY.ext O_146.2
    have lt_a_FRONT_GREY_150 := f154.lt
    have f155 := E_FRONT_BW_indicator.ext O_146.2
    have lt_a_FRONT_BW_indicator_150 := f155.lt
    have f156 := E_BACK_BW_indicator.ext O_146.2
    have lt_a_BACK_BW_indicator_150 := f156.lt
    have f157 := E_FRONT_GREY_indicator.ext O_146.2
    have lt_a_FRONT_GREY_indicator_150 := f157.lt
    have f158 := V_FRONT_BW_indicator_value.ext O_146.2
    have lt_a_FRONT_BW_indicator_value_150 := f158.lt
    have f159 := V_BACK_BW_indicator_value.ext O_146.2
    have lt_a_BACK_BW_indicator_value_150 := f159.lt
    have f160 := V_FRONT_GREY_indicator_value.ext O_146.2
    have lt_a_FRONT_GREY_indicator_value_150 := f160.lt
    have lt_fb1_150 := V146.lt
    have f161 := ((f140.keep Kp139 (ninS ne_b109_b125 nin0)).other W146 (Ne.symm ne_fb1_b109))
    have lt_b109_150 := f161.lt
    have f162 := (Ex139.wr W146)
    have lt_b125_150 := f162.lt
    obtain ⟨_, _, ⟨T150, L150, k150, n150⟩, -, X150, ⟨Lc150, hQ150, l150, y150, z150⟩, st150⟩ := Jvm.LawKit.callS X146 hx (y := (⟨"com/example/gridclear/gridclear/image/ImageView$Side", "indicators", "()[Ljava/lang/String;"⟩ : MethodName)) hown13 (mvT hZ13 (hw _ (List.mem_of_getElem? (i := 0) rfl))) (mvT hZ13 (hw _ (List.mem_of_getElem? (i := 1) rfl))) (mvT hZ13 (hw _ (List.mem_of_getElem? (i := 2) rfl))) (mvT hZ13 (hw _ (List.mem_of_getElem? (i := 3) rfl))) (by decide) (backOf (W := 0) (rm1 l Z a0 hw [] a__VALUES a_FRONT_BW a_BACK_BW a_FRONT_GREY a_FRONT_BW_indicator a_BACK_BW_indicator a_FRONT_GREY_indicator a_FRONT_BW_indicator_value a_BACK_BW_indicator_value a_FRONT_GREY_indicator_value k__VALUES k_FRONT_BW_indicator_value k_BACK_BW_indicator_value k_FRONT_GREY_indicator_value cs h146 n0 O_146 FS) hZ13 (hw _ (List.mem_of_getElem? (i := 3) rfl)) (hw _ (List.mem_of_getElem? (i := 2) rfl)) (by decide) (by decide)) (g := (mkF m 137 #[.val (.int i0), .val (.int i1), .val (.ref fb1), .val (.int (1 : Int32)), .val (.ref a_BACK_BW), .val (.ref b109), .unset] [])) rfl (by rw [hml]; rfl) (argsL := []) (rest := []) (lenOf pd_7 rfl) rfl (by show 2 * 0 + _ ≤ _; exact Nat.le_of_eq rfl) (hb hby at_137) (fun _ _ => ⟨rfl, e146, (by decide : 12 + 2 ≤ _), (by decide : 127 + 6 ≤ _)⟩)
    dsimp only [Pt.U, Pt.locs, Pt.cells, Pt.slots] at X150 l150 y150 z150 st150 hQ150
    subst l150 y150 z150
    obtain ⟨fb150, fk150, rfl, Nq150, Kp150, gb150, sb150, Vb150, Ob150⟩ := hQ150
    have ne_a__VALUES_fb150 : a__VALUES ≠ fb150 := Nat.ne_of_lt (Nat.lt_of_lt_of_le lt_a__VALUES_150 sb150)
    have ne_a_FRONT_BW_fb150 : a_FRONT_BW ≠ fb150 := Nat.ne_of_lt (Nat.lt_of_lt_of_le lt_a_FRONT_BW_150 sb150)
    have ne_a_BACK_BW_fb150 : a_BACK_BW ≠ fb150 := Nat.ne_of_lt (Nat.lt_of_lt_of_le lt_a_BACK_BW_150 sb150)
    have ne_a_FRONT_GREY_fb150 : a_FRONT_GREY ≠ fb150 := Nat.ne_of_lt (Nat.lt_of_lt_of_le lt_a_FRONT_GREY_150 sb150)
    have ne_a_FRONT_BW_indicator_fb150 : a_FRONT_BW_indicator ≠ fb150 := Nat.ne_of_lt (Nat.lt_of_lt_of_le lt_a_FRONT_BW_indicator_150 sb150)
    have ne_a_BACK_BW_indicator_fb150 : a_BACK_BW_indicator ≠ fb150 := Nat.ne_of_lt (Nat.lt_of_lt_of_le lt_a_BACK_BW_indicator_150 sb150)
    have ne_a_FRONT_GREY_indicator_fb150 : a_FRONT_GREY_indicator ≠ fb150 := Nat.ne_of_lt (Nat.lt_of_lt_of_le lt_a_FRONT_GREY_indicator_150 sb150)
    have ne_a_FRONT_BW_indicator_value_fb150 : a_FRONT_BW_indicator_value ≠ fb150 := Nat.ne_of_lt (Nat.lt_of_lt_of_le lt_a_FRONT_BW_indicator_value_150 sb150)
    have ne_a_BACK_BW_indicator_value_fb150 : a_BACK_BW_indicator_value ≠ fb150 := Nat.ne_of_lt (Nat.lt_of_lt_of_le lt_a_BACK_BW_indicator_value_150 sb150)
    have ne_a_FRONT_GREY_indicator_value_fb150 : a_FRONT_GREY_indicator_value ≠ fb150 := Nat.ne_of_lt (Nat.lt_of_lt_of_le lt_a_FRONT_GREY_indicator_value_150 sb150)
    have ne_fb1_fb150 : fb1 ≠ fb150 := Nat.ne_of_lt (Nat.lt_of_lt_of_le lt_fb1_150 sb150)
    have ne_b109_fb150 : b109 ≠ fb150 := Nat.ne_of_lt (Nat.lt_of_lt_of_le lt_b109_150 sb150)
    have ne_b125_fb150 : b125 ≠ fb150 := Nat.ne_of_lt (Nat.lt_of_lt_of_le lt_b125_150 sb150)
    have Sf163 := Safe.keep Kp150 sf0 CH149.1 Sf147
    have Sf164 := Safe.keep Kp150 sf0 CH149.1 Sf148
    have CH165 := CH149.trans (CHr.keep Kp150 sf0 CH149.1)
    have O_150 := O_146.keep Kp150 all0
    have N150 := Fr.app N146 Nq150
    refine GoesW.step (B := T150.setTop (mkF m 140 #[.val (.int i0), .val (.int i1), .val (.ref fb1), .val (.int (1 : Int32)), .val (.ref a_BACK_BW), .val (.ref b109), .unset] [(.ref fb150)])) st150 ?_
    refine GoesW.step (B := T150.setTop (mkF m 142 #[.val (.int i0), .val (.int i1), .val (.ref fb1), .val (.int (1 : Int32)), .val (.ref a_BACK_BW), .val (.ref b109), .val (.ref fb150)] [])) (fun _ k => XS.astore X150.here hx rfl (hb hby at_140) rfl rfl (l' := #[.val (.int i0), .val (.int i1), .val (.ref fb1), .val (.int (1 : Int32)), .val (.ref a_BACK_BW), .val (.ref b109), .val (.ref fb150)]) rfl k) ?_
    refine GoesW.step (B := T150.setTop (mkF m 144 #[.val (.int i0), .val (.int i1), .val (.ref fb1), .val (.int (1 : Int32)), .val (.ref a_BACK_BW), .val (.ref b109), .val (.ref fb150)] [(.ref fb150)])) (fun _ k => XS.aload X150.here hx rfl (hb hby at_142) rfl rfl k) ?_
    refine GoesW.step (B := T150.setTop (mkF m 145 #[.val (.int i0), .val (.int i1), .val (.ref fb1), .val (.int (1 : Int32)), .val (.ref a_BACK_BW), .val (.ref b109), .val (.ref fb150)] [(.ref fb1), (.ref fb150)])) (fun _ k => XS.aloadN X150.here hx rfl (hb hby at_144) rfl rfl k) ?_
    refine GoesW.step (B := T150.setTop (mkF m 150 #[.val (.int i0), .val (.int i1), .val (.ref fb1), .val (.int (1 : Int32)), .val (.ref a_BACK_BW), .val (.ref b109), .val (.ref fb150)] [])) (fun _ k => Jvm.RoadKit.acmp (g := (mkF m 145 #[.val (.int i0), .val (.int i1), .val (.ref fb1), .val (.int (1 : Int32)), .val (.ref a_BACK_BW), .val (.ref b109), .val (.ref fb150)] [(.ref fb1), (.ref fb150)])) X150 hx rfl rfl rfl (pc0 := 145) (pc' := 150) (same := false) rfl (hb hby at_145) rfl (decide_eq_false fun q => (Ne.symm ne_fb1_fb150) (Value.ref.inj q)) (by decide) (by decide) k) ?_
    refine GoesW.step (B := T150.setTop (mkF m 152 #[.val (.int i0), .val (.int i1), .val (.ref fb1), .val (.int (1 : Int32)), .val (.ref a_BACK_BW), .val (.ref b109), .val (.ref fb150)] [(.ref fb150)])) (fun _ k => XS.aload X150.here hx rfl (hb hby at_150) rfl rfl k) ?_
    obtain ⟨_, vw166, ⟨T166, L166, k166, n166⟩, -, Xr166, S2166, sz166, ⟨Lc166, hQ166, l166, y166, z166, Hc166⟩, st166⟩ := callSS X150 hx (y := (⟨"com/example/gridclear/gridclear/image/SideIndicatorsPinLaw", "exact", "([Ljava/lang/String;)Z"⟩ : MethodName)) hown13 (mvT hZ13 (hw _ (List.mem_of_getElem? (i := 27) rfl))) (mvT hZ13 (hw _ (List.mem_of_getElem? (i := 28) rfl))) (mvT hZ13 (hw _ (List.mem_of_getElem? (i := 29) rfl))) (mvT hZ13 (hw _ (List.mem_of_getElem? (i := 30) rfl))) (by decide) (backOfSH (W := 0) (rm3 l Z a0 hw [] fb150 fk150 a__VALUES a_FRONT_BW a_BACK_BW a_FRONT_GREY a_FRONT_BW_indicator a_BACK_BW_indicator a_FRONT_GREY_indicator a_FRONT_BW_indicator_value a_BACK_BW_indicator_value a_FRONT_GREY_indicator_value k__VALUES k_FRONT_BW_indicator_value k_BACK_BW_indicator_value k_FRONT_GREY_indicator_value cs T150.heap n0 O_150 FS Vb150) hZ13 (hw _ (List.mem_of_getElem? (i := 30) rfl)) (hw _ (List.mem_of_getElem? (i := 29) rfl)) (by decide) (by decide) (own_EW hw) CH165.1) (g := (mkF m 152 #[.val (.int i0), .val (.int i1), .val (.ref fb1), .val (.int (1 : Int32)), .val (.ref a_BACK_BW), .val (.ref b109), .val (.ref fb150)] [(.ref fb150)])) rfl (by rw [hml]; rfl) (argsL := [(.ref fb150)]) (rest := []) (lenOf pd_8 rfl) rfl (by show 2 * 0 + _ ≤ _; exact Nat.le_of_eq rfl) (hb hby at_152) (fun _ _ => ⟨rfl, rfl, (by decide : 14 + 6 ≤ _), (by decide : 133 + 112 ≤ _)⟩)
    dsimp only [Pt.U, Pt.locs, Pt.cells, Pt.slots] at Xr166 S2166 sz166 l166 y166 z166 st166 hQ166 Hc166
    subst l166 y166 z166
    obtain ⟨X166, hS166, hZ166, hown166⟩ := rebS hS13 (by exact (Nat.le_trans (Nat.le_trans (Nat.le_trans (Nat.le_trans (Nat.le_trans (Nat.le_trans (Nat.le_trans (Nat.le_refl _) Kp107.1) E109.1) (Nat.le_of_eq W122.size.symm)) E125.1) Kp139.1) (Nat.le_of_eq W146.size.symm)) Kp150.1)) Xr166 S2166 sz166 hZ13 hown13
    have CHc166 := CH165.trans Hc166
    obtain ⟨rfl, Nq166, Kp166⟩ := hQ166
    have f168 := (f161.keep Kp150 nin0)
    have Sf167 := CHr.safe Hc166 f168.lt Sf163
    have f170 := (f162.keep Kp150)
    have Sf169 := CHr.safe Hc166 f170.lt Sf164
    have O_166 := O_150.keep Kp166 all0
    have N166 := Fr.app N150 Nq166
    refine GoesW.via (B := T166.setTop (mkF m 155 #[.val (.int i0), .val (.int i1), .val (.ref fb1), .val (.int (1 : Int32)), .val (.ref a_BACK_BW), .val (.ref b109), .val (.ref fb150)] [(.int (1 : Int32))])) st166 ?_
    exact GoesW.retN X166 hS166 (Nat.le_refl _) hx rfl (t := .boolean) Bd.returns (by simp) hlk (hb hby at_155) (by decide) (by decide) (⟨rfl, N166⟩)
  · refine GoesW.step (B := T37.setTop (mkF m 67 #[.val (.int i0), .val (.int i1), .val (.ref fb1), .val (.int (2 : Int32)), .unset, .unset, .unset] [])) (fun _ k => XS.istoreN X37.here hx rfl (hb hby at_66) rfl (l' := #[.val (.int i0), .val (.int i1), .val (.ref fb1), .val (.int (2 : Int32)), .unset, .unset, .unset]) rfl k) ?_
    refine GoesW.step (B := T37.setTop (mkF m 68 #[.val (.int i0), .val (.int i1), .val (.ref fb1), .val (.int (2 : Int32)), .unset, .unset, .unset] [(.int (2 : Int32))])) (fun _ k => XS.iloadN X37.here hx rfl (hb hby at_67) rfl k) ?_
    refine GoesW.step (B := T37.setTop (mkF m 79 #[.val (.int i0), .val (.int i1), .val (.ref fb1), .val (.int (2 : Int32)), .unset, .unset, .unset] [])) (fun _ k => XS.ifYes X37.here hx rfl (pc0 := 68) (pc' := 79) rfl (hb hby at_68) rfl ((if0 _ _).trans (feq (by decide)).2) (by decide) (by decide) k) ?_
    refine GoesW.step (B := T37.setTop (mkF m 80 #[.val (.int i0), .val (.int i1), .val (.ref fb1), .val (.int (2 : Int32)), .unset, .unset, .unset] [(.int (2 : Int32))])) (fun _ k => XS.iloadN X37.here hx rfl (hb hby at_79) rfl k) ?_
    refine GoesW.step (B := T37.setTop (mkF m 81 #[.val (.int i0), .val (.int i1), .val (.ref fb1), .val (.int (2 : Int32)), .unset, .unset, .unset] [(.int (1 : Int32)), (.int (2 : Int32))])) (fun _ k => XS.iconst X37.here hx rfl (hb hby at_80) k) ?_
    refine GoesW.step (B := T37.setTop (mkF m 92 #[.val (.int i0), .val (.int i1), .val (.ref fb1), .val (.int (2 : Int32)), .unset, .unset, .unset] [])) (fun _ k => XS.icmpYes X37.here hx rfl (pc0 := 81) (pc' := 92) rfl (hb hby at_81) rfl (feq (by decide)).2 (by decide) (by decide) k) ?_
    obtain ⟨T171, X171, e171, st171⟩ := getS2 X37 hx hZ13 hown13 (host := "") (Or.inl (hw _ (List.mem_of_getElem? (i := 61) rfl))) Via.refl eh37 f32 (g := (mkF m 92 #[.val (.int i0), .val (.int i1), .val (.ref fb1), .val (.int (2 : Int32)), .unset, .unset, .unset] [])) rfl (hb hby at_92)
    refine GoesW.step (B := T171.setTop (mkF m 95 #[.val (.int i0), .val (.int i1), .val (.ref fb1), .val (.int (2 : Int32)), .unset, .unset, .unset] [(.ref a_FRONT_GREY)])) st171 ?_
    refine GoesW.step (B := T171.setTop (mkF m 97 #[.val (.int i0), .val (.int i1), .val (.ref fb1), .val (.int (2 : Int32)), .val (.ref a_FRONT_GREY), .unset, .unset] [])) (fun _ k => XS.astore X171.here hx rfl (hb hby at_95) rfl rfl (l' := #[.val (.int i0), .val (.int i1), .val (.ref fb1), .val (.int (2 : Int32)), .val (.ref a_FRONT_GREY), .unset, .unset]) rfl k) ?_
    refine GoesW.step (B := T171.setTop (mkF m 98 #[.val (.int i0), .val (.int i1), .val (.ref fb1), .val (.int (2 : Int32)), .val (.ref a_FRONT_GREY), .unset, .unset] [(.ref fb1)])) (fun _ k => XS.aloadN X171.here hx rfl (hb hby at_97) rfl rfl k) ?_
    refine GoesW.step (B := T171.setTop (mkF m 99 #[.val (.int i0), .val (.int i1), .val (.ref fb1), .val (.int (2 : Int32)), .val (.ref a_FRONT_GREY), .unset, .unset] [(.int (2 : Int32)), (.ref fb1)])) (fun _ k => XS.iloadN X171.here hx rfl (hb hby at_98) rfl k) ?_
    obtain ⟨c172, Ar172, -, Sz172, Nn172, Hs172, -⟩ := id f14
    have hin172 : ¬ ((2 : Int32) < 0 ∨ c172.slots.size ≤ ((2 : Int32)).toNatClampNeg) := inb_of Sz172 ⟨by decide, by decide⟩
    refine GoesW.step (B := T171.setTop (mkF m 100 #[.val (.int i0), .val (.int i1), .val (.ref fb1), .val (.int (2 : Int32)), .val (.ref a_FRONT_GREY), .unset, .unset] [(.ref a_FRONT_GREY_indicator)])) (X171.aaload hx (j := (2 : Int32)) (v := (.ref a_FRONT_GREY_indicator)) (by rw [e171]; exact Ar172.1) (State.isArrayOf_alike hZ13.alike Ar172.2.1) rfl Ar172.2.2 hin172 (Has.at Hs172 hin172 rfl) (g := (mkF m 99 #[.val (.int i0), .val (.int i1), .val (.ref fb1), .val (.int (2 : Int32)), .val (.ref a_FRONT_GREY), .unset, .unset] [(.int (2 : Int32)), (.ref fb1)])) rfl rfl (hb hby at_99)) ?_
    obtain ⟨_, _, ⟨T173, L173, k173, n173⟩, -, X173, ⟨Lc173, hQ173, l173, y173, z173⟩, st173⟩ := Jvm.LawKit.callS X171 hx (y := (⟨"com/example/gridclear/gridclear/image/ImageView$Side", "of", "(Ljava/lang/String;)Lcom/example/gridclear/gridclear/image/ImageView$Side;"⟩ : MethodName)) hown13 (mvT hZ13 (hw _ (List.mem_of_getElem? (i := 63) rfl))) (mvT hZ13 (hw _ (List.mem_of_getElem? (i := 64) rfl))) (mvT hZ13 (hw _ (List.mem_of_getElem? (i := 2) rfl))) (mvT hZ13 (hw _ (List.mem_of_getElem? (i := 65) rfl))) (by decide) (backOf (W := 0) (rmOf2 l Z a0 hw [] a__VALUES a_FRONT_BW a_BACK_BW a_FRONT_GREY a_FRONT_BW_indicator a_BACK_BW_indicator a_FRONT_GREY_indicator a_FRONT_BW_indicator_value a_BACK_BW_indicator_value a_FRONT_GREY_indicator_value k__VALUES k_FRONT_BW_indicator_value k_BACK_BW_indicator_value k_FRONT_GREY_indicator_value cs T13.heap n0 O_13 FS) hZ13 (hw _ (List.mem_of_getElem? (i := 65) rfl)) (hw _ (List.mem_of_getElem? (i := 2) rfl)) (by decide) (by decide)) (g := (mkF m 100 #[.val (.int i0), .val (.int i1), .val (.ref fb1), .val (.int (2 : Int32)), .val (.ref a_FRONT_GREY), .unset, .unset] [(.ref a_FRONT_GREY_indicator)])) rfl (by rw [hml]; rfl) (argsL := [(.ref a_FRONT_GREY_indicator)]) (rest := []) (lenOf pd_10 rfl) rfl (by show 2 * 0 + _ ≤ _; exact Nat.le_of_eq rfl) (hb hby at_100) (fun _ _ => ⟨rfl, e171, (by decide : 8 + 1 ≤ _), (by decide : 118 + 3 ≤ _)⟩)
    dsimp only [Pt.U, Pt.locs, Pt.cells, Pt.slots] at X173 l173 y173 z173 st173 hQ173
    subst l173 y173 z173
    obtain ⟨rfl, Nq173, Kp173⟩ := hQ173
    have CH174 := CHc13.trans (CHr.keep Kp173 sf0 CHc13.1)
    have O_173 := O_13.keep Kp173 all0
    have N173 := Fr.app N37 Nq173
    refine GoesW.step (B := T173.setTop (mkF m 103 #[.val (.int i0), .val (.int i1), .val (.ref fb1), .val (.int (2 : Int32)), .val (.ref a_FRONT_GREY), .unset, .unset] [(.ref a_FRONT_GREY)])) st173 ?_
    refine GoesW.step (B := T173.setTop (mkF m 105 #[.val (.int i0), .val (.int i1), .val (.ref fb1), .val (.int (2 : Int32)), .val (.ref a_FRONT_GREY), .unset, .unset] [(.ref a_FRONT_GREY), (.ref a_FRONT_GREY)])) (fun _ k => XS.aload X173.here hx rfl (hb hby at_103) rfl rfl k) ?_
    refine GoesW.step (B := T173.setTop (mkF m 110 #[.val (.int i0), .val (.int i1), .val (.ref fb1), .val (.int (2 : Int32)), .val (.ref a_FRONT_GREY), .unset, .unset] [])) (fun _ k => Jvm.RoadKit.acmp (g := (mkF m 105 #[.val (.int i0), .val (.int i1), .val (.ref fb1), .val (.int (2 : Int32)), .val (.ref a_FRONT_GREY), .unset, .unset] [(.ref a_FRONT_GREY), (.ref a_FRONT_GREY)])) X173 hx rfl rfl rfl (pc0 := 105) (pc' := 110) (same := true) rfl (hb hby at_105) rfl (decide_eq_true rfl) (by decide) (by decide) k) ?_
    refine GoesW.step (B := T173.setTop (mkF m 111 #[.val (.int i0), .val (.int i1), .val (.ref fb1), .val (.int (2 : Int32)), .val (.ref a_FRONT_GREY), .unset, .unset] [(.int (1 : Int32))])) (fun _ k => XS.iconst X173.here hx rfl (hb hby at_110) k) ?_
    obtain ⟨T175, h175, k175, X175, e175, E175, A175, st175⟩ := newP X173 hx hZ13 (hw _ (List.mem_of_getElem? (i := 67) rfl)) rfl (g := (mkF m 111 #[.val (.int i0), .val (.int i1), .val (.ref fb1), .val (.int (2 : Int32)), .val (.ref a_FRONT_GREY), .unset, .unset] [(.int (1 : Int32))])) rfl (hb hby at_111) rfl (by decide) (cap := 1) (by decide) (by decide) (by decide) (by decide)
    obtain ⟨b175, g175⟩ : ∃ z, z = T173.heap.size := ⟨_, rfl⟩
    rw [← g175] at A175 st175
    have f176 := E__VALUES.ext O_173.2
    have ne_a__VALUES_b175 : a__VALUES ≠ b175 := Nat.ne_of_lt (Nat.lt_of_lt_of_le f176.lt (Nat.le_of_eq g175.symm))
    have f177 := E_FRONT_BW.ext O_173.2
    have ne_a_FRONT_BW_b175 : a_FRONT_BW ≠ b175 := Nat.ne_of_lt (Nat.lt_of_lt_of_le f177.lt (Nat.le_of_eq g175.symm))
    have f178 := E_BACK_BW.ext O_173.2
    have ne_a_BACK_BW_b175 : a_BACK_BW ≠ b175 := Nat.ne_of_lt (Nat.lt_of_lt_of_le f178.lt (Nat.le_of_eq g175.symm))
    have f179 := E_FRONT_GREY.ext O_173.2
    have ne_a_FRONT_GREY_b175 : a_FRONT_GREY ≠ b175 := Nat.ne_of_lt (Nat.lt_of_lt_of_le f179.lt (Nat.le_of_eq g175.symm))
    have f180 := E_FRONT_BW_indicator.ext O_173.2
    have ne_a_FRONT_BW_indicator_b175 : a_FRONT_BW_indicator ≠ b175 := Nat.ne_of_lt (Nat.lt_of_lt_of_le f180.lt (Nat.le_of_eq g175.symm))
    have f181 := E_BACK_BW_indicator.ext O_173.2
    have ne_a_BACK_BW_indicator_b175 : a_BACK_BW_indicator ≠ b175 := Nat.ne_of_lt (Nat.lt_of_lt_of_le f181.lt (Nat.le_of_eq g175.symm))
    have f182 := E_FRONT_GREY_indicator.ext O_173.2
    have ne_a_FRONT_GREY_indicator_b175 : a_FRONT_GREY_indicator ≠ b175 := Nat.ne_of_lt (Nat.lt_of_lt_of_le f182.lt (Nat.le_of_eq g175.symm))
    have f183 := V_FRONT_BW_indicator_value.ext O_173.2
    have ne_a_FRONT_BW_indicator_value_b175 : a_FRONT_BW_indicator_value ≠ b175 := Nat.ne_of_lt (Nat.lt_of_lt_of_le f183.lt (Nat.le_of_eq g175.symm))
    have f184 := V_BACK_BW_indicator_value.ext O_173.2
    have ne_a_BACK_BW_indicator_value_b175 : a_BACK_BW_indicator_value ≠ b175 := Nat.ne_of_lt (Nat.lt_of_lt_of_le f184.lt (Nat.le_of_eq g175.symm))
    have f185 := V_FRONT_GREY_indicator_value.ext O_173.2
    have ne_a_FRONT_GREY_indicator_value_b175 : a_FRONT_GREY_indicator_value ≠ b175 := Nat.ne_of_lt (Nat.lt_of_lt_of_le f185.lt (Nat.le_of_eq g175.symm))
    have f186 := (f14.keep Kp173 nin0)
    have ne_fb1_b175 : fb1 ≠ b175 := Nat.ne_of_lt (Nat.lt_of_lt_of_le f186.lt (Nat.le_of_eq g175.symm))
    have g_b175 : n0 ≤ b175 := Nat.le_trans (own_z O_173) (Nat.le_of_eq g175.symm)
    have Sf_b175 := Safe.ext E175 CH174.1 (Safe.new (Nat.le_of_eq g175.symm))
    have CH187 := CH174.trans (CHr.ext E175 CH174.1)
    have O_175 := O_173.ext E175
    have V_b175 : Arv Z h175 b175 k175 .char (1 : Int32) [(.int (0 : Int32))] (.int (0 : Int32)) := (Arv.new A175 (by decide)).pad (pad_rep [] (.int (0 : Int32)) 1)
    refine GoesW.step (B := T175.setTop (mkF m 113 #[.val (.int i0), .val (.int i1), .val (.ref fb1), .val (.int (2 : Int32)), .val (.ref a_FRONT_GREY), .unset, .unset] [(.ref b175)])) st175 ?_
    refine GoesW.step (B := T175.setTop (mkF m 115 #[.val (.int i0), .val (.int i1), .val (.ref fb1), .val (.int (2 : Int32)), .val (.ref a_FRONT_GREY), .val (.ref b175), .unset] [])) (fun _ k => XS.astore X175.here hx rfl (hb hby at_113) rfl rfl (l' := #[.val (.int i0), .val (.int i1), .val (.ref fb1), .val (.int (2 : Int32)), .val (.ref a_FRONT_GREY), .val (.ref b175), .unset]) rfl k) ?_
    refine GoesW.step (B := T175.setTop (mkF m 117 #[.val (.int i0), .val (.int i1), .val (.ref fb1), .val (.int (2 : Int32)), .val (.ref a_FRONT_GREY), .val (.ref b175), .unset] [(.ref b175)])) (fun _ k => XS.aload X175.here hx rfl (hb hby at_115) rfl rfl k) ?_
    refine GoesW.step (B := T175.setTop (mkF m 118 #[.val (.int i0), .val (.int i1), .val (.ref fb1), .val (.int (2 : Int32)), .val (.ref a_FRONT_GREY), .val (.ref b175), .unset] [(.int (0 : Int32)), (.ref b175)])) (fun _ k => XS.iconst X175.here hx rfl (hb hby at_117) k) ?_
    refine GoesW.step (B := T175.setTop (mkF m 119 #[.val (.int i0), .val (.int i1), .val (.ref fb1), .val (.int (2 : Int32)), .val (.ref a_FRONT_GREY), .val (.ref b175), .unset] [(.int i1), (.int (0 : Int32)), (.ref b175)])) (fun _ k => XS.iloadN X175.here hx rfl (hb hby at_118) rfl k) ?_
    refine GoesW.step (B := T175.setTop (mkF m 122 #[.val (.int i0), .val (.int i1), .val (.ref fb1), .val (.int (2 : Int32)), .val (.ref a_FRONT_GREY), .val (.ref b175), .unset] [(.int (255 : Int32)), (.int i1), (.int (0 : Int32)), (.ref b175)])) (fun _ k => XS.sipush X175.here hx rfl (hb hby at_119) k) ?_
    refine GoesW.step (B := T175.setTop (mkF m 123 #[.val (.int i0), .val (.int i1), .val (.ref fb1), .val (.int (2 : Int32)), .val (.ref a_FRONT_GREY), .val (.ref b175), .unset] [(.int (i1 &&& (255 : Int32))), (.int (0 : Int32)), (.ref b175)])) (fun _ k => XS.iand X175.here hx rfl (hb hby at_122) rfl k) ?_
    refine GoesW.step (B := T175.setTop (mkF m 124 #[.val (.int i0), .val (.int i1), .val (.ref fb1), .val (.int (2 : Int32)), .val (.ref a_FRONT_GREY), .val (.ref b175), .unset] [(.int (i1 &&& (255 : Int32)).toUInt32.toUInt16.toUInt32.toInt32), (.int (0 : Int32)), (.ref b175)])) (fun _ k => XS.i2c X175.here hx rfl (hb hby at_123) rfl k) ?_
    obtain ⟨cv, hcv⟩ : ∃ z, z = (i1 &&& (255 : Int32)).toUInt32.toUInt16.toUInt32.toInt32 := ⟨_, rfl⟩
    rw [← hcv]
    have hch := own_ch hcv
    obtain ⟨c188, Ar188, q188, Sz188, Nn188, Hs188, Gs188⟩ := id V_b175
    have hin188 : ¬ ((0 : Int32) < 0 ∨ c188.slots.size ≤ ((0 : Int32)).toNatClampNeg) := inb_of Sz188 ⟨by decide, by decide⟩
    obtain ⟨T188, h188, X188, e188, W188, st188⟩ := stC X175 hx hZ13 e175 Ar188 (j := (0 : Int32)) hin188 (g := (mkF m 124 #[.val (.int i0), .val (.int i1), .val (.ref fb1), .val (.int (2 : Int32)), .val (.ref a_FRONT_GREY), .val (.ref b175), .unset] [(.int cv), (.int (0 : Int32)), (.ref b175)])) rfl rfl (hb hby at_124)
    have Sf189 := Safe.wr W188 Sf_b175 CH187.1 Sf_b175
    have CH190 := CH187.trans (CHr.wr W188 Sf_b175 CH187.1)
    have V188 : Arv Z h188 b175 k175 .char (1 : Int32) [(.int (nar .char cv))] (.int (0 : Int32)) := Arv.set Ar188 q188 Sz188 Nn188 Hs188 Gs188 (fits_nar_char _) W188 0 rfl (Nat.le_of_ble_eq_true rfl)
    have N188 := Fr.snoc X188 N173 g_b175
    have O_188 := O_175.wr W188 g_b175
    refine GoesW.step (B := T188.setTop (mkF m 125 #[.val (.int i0), .val (.int i1), .val (.ref fb1), .val (.int (2 : Int32)), .val (.ref a_FRONT_GREY), .val (.ref b175), .unset] [])) st188 ?_
    refine GoesW.step (B := T188.setTop (mkF m 126 #[.val (.int i0), .val (.int i1), .val (.ref fb1), .val (.int (2 : Int32)), .val (.ref a_FRONT_GREY), .val (.ref b175), .unset] [(.ref fb1)])) (fun _ k => XS.aloadN X188.here hx rfl (hb hby at_125) rfl rfl k) ?_
    refine GoesW.step (B := T188.setTop (mkF m 127 #[.val (.int i0), .val (.int i1), .val (.ref fb1), .val (.int (2 : Int32)), .val (.ref a_FRONT_GREY), .val (.ref b175), .unset] [(.int (2 : Int32)), (.ref fb1)])) (fun _ k => XS.iloadN X188.here hx rfl (hb hby at_126) rfl k) ?_
    obtain ⟨T191, h191, X191, e191, E191, A191, D191, -, st191⟩ := newO X188 hx hZ13 hown13 (hw _ (List.mem_of_getElem? (i := 68) rfl)) (hw _ (List.mem_of_getElem? (i := 33) rfl)) (hw _ (List.mem_of_getElem? (i := 32) rfl)) e188 (g := (mkF m 127 #[.val (.int i0), .val (.int i1), .val (.ref fb1), .val (.int (2 : Int32)), .val (.ref a_FRONT_GREY), .val (.ref b175), .unset] [(.int (2 : Int32)), (.ref fb1)])) rfl (hb hby at_127) (by decide) (by decide)
    obtain ⟨b191, g191⟩ : ∃ z, z = h188.size := ⟨_, rfl⟩
    rw [← g191] at A191 D191 st191
    have f192 := E__VALUES.ext O_188.2
    have ne_a__VALUES_b191 : a__VALUES ≠ b191 := Nat.ne_of_lt (Nat.lt_of_lt_of_le f192.lt (Nat.le_of_eq g191.symm))
    have f193 := E_FRONT_BW.ext O_188.2
    have ne_a_FRONT_BW_b191 : a_FRONT_BW ≠ b191 := Nat.ne_of_lt (Nat.lt_of_lt_of_le f193.lt (Nat.le_of_eq g191.symm))
    have f194 := E_BACK_BW.ext O_188.2
    have ne_a_BACK_BW_b191 : a_BACK_BW ≠ b191 := Nat.ne_of_lt (Nat.lt_of_lt_of_le f194.lt (Nat.le_of_eq g191.symm))
    have f195 := E_FRONT_GREY.ext O_188.2
    have ne_a_FRONT_GREY_b191 : a_FRONT_GREY ≠ b191 := Nat.ne_of_lt (Nat.lt_of_lt_of_le f195.lt (Nat.le_of_eq g191.symm))
    have f196 := E_FRONT_BW_indicator.ext O_188.2
    have ne_a_FRONT_BW_indicator_b191 : a_FRONT_BW_indicator ≠ b191 := Nat.ne_of_lt (Nat.lt_of_lt_of_le f196.lt (Nat.le_of_eq g191.symm))
    have f197 := E_BACK_BW_indicator.ext O_188.2
    have ne_a_BACK_BW_indicator_b191 : a_BACK_BW_indicator ≠ b191 := Nat.ne_of_lt (Nat.lt_of_lt_of_le f197.lt (Nat.le_of_eq g191.symm))
    have f198 := E_FRONT_GREY_indicator.ext O_188.2
    have ne_a_FRONT_GREY_indicator_b191 : a_FRONT_GREY_indicator ≠ b191 := Nat.ne_of_lt (Nat.lt_of_lt_of_le f198.lt (Nat.le_of_eq g191.symm))
    have f199 := V_FRONT_BW_indicator_value.ext O_188.2
    have ne_a_FRONT_BW_indicator_value_b191 : a_FRONT_BW_indicator_value ≠ b191 := Nat.ne_of_lt (Nat.lt_of_lt_of_le f199.lt (Nat.le_of_eq g191.symm))
    have f200 := V_BACK_BW_indicator_value.ext O_188.2
    have ne_a_BACK_BW_indicator_value_b191 : a_BACK_BW_indicator_value ≠ b191 := Nat.ne_of_lt (Nat.lt_of_lt_of_le f200.lt (Nat.le_of_eq g191.symm))
    have f201 := V_FRONT_GREY_indicator_value.ext O_188.2
    have ne_a_FRONT_GREY_indicator_value_b191 : a_FRONT_GREY_indicator_value ≠ b191 := Nat.ne_of_lt (Nat.lt_of_lt_of_le f201.lt (Nat.le_of_eq g191.symm))
    have f202 := ((f186.ext E175).other W188 ne_fb1_b175)
    have ne_fb1_b191 : fb1 ≠ b191 := Nat.ne_of_lt (Nat.lt_of_lt_of_le f202.lt (Nat.le_of_eq g191.symm))
    have ne_b175_b191 : b175 ≠ b191 := Nat.ne_of_lt (Nat.lt_of_lt_of_le V188.lt (Nat.le_of_eq g191.symm))
    have g_b191 : n0 ≤ b191 := Nat.le_trans (own_z O_188) (Nat.le_of_eq g191.symm)
    have Sf_b191 := Safe.ext E191 CH190.1 (Safe.new (Nat.le_of_eq g191.symm))
    have Sf203 := Safe.ext E191 CH190.1 Sf189
    have CH204 := CH190.trans (CHr.ext E191 CH190.1)
    have O_191 := O_188.ext E191
    have F191_value : Fld Z h191 b191 "java/lang/String" "value" "[B" .null := D191 (Or.inr (hw _ (List.mem_of_getElem? (i := 35) rfl))) (ty := (.array .byte)) (by decide)
    have F191_coder : Fld Z h191 b191 "java/lang/String" "coder" "B" (.int (0 : Int32)) := D191 (Or.inr (hw _ (List.mem_of_getElem? (i := 36) rfl))) (ty := .byte) (by decide)
    refine GoesW.step (B := T191.setTop (mkF m 130 #[.val (.int i0), .val (.int i1), .val (.ref fb1), .val (.int (2 : Int32)), .val (.ref a_FRONT_GREY), .val (.ref b175), .unset] [(.ref b191), (.int (2 : Int32)), (.ref fb1)])) st191 ?_
    refine GoesW.step (B := T191.setTop (mkF m 131 #[.val (.int i0), .val (.int i1), .val (.ref fb1), .val (.int (2 : Int32)), .val (.ref a_FRONT_GREY), .val (.ref b175), .unset] [(.ref b191), (.ref b191), (.int (2 : Int32)), (.ref fb1)])) (fun _ k => XS.dup X191.here hx rfl (hb hby at_130) rfl rfl k) ?_
    refine GoesW.step (B := T191.setTop (mkF m 133 #[.val (.int i0), .val (.int i1), .val (.ref fb1), .val (.int (2 : Int32)), .val (.ref a_FRONT_GREY), .val (.ref b175), .unset] [(.ref b175), (.ref b191), (.ref b191), (.int (2 : Int32)), (.ref fb1)])) (fun _ k => XS.aload X191.here hx rfl (hb hby at_131) rfl rfl k) ?_
    have f206 := (V188.ext E191)
    have f207 := S_COMPACT_STRINGS.ext O_191.2
    obtain ⟨_, _, ⟨T205, L205, k205, n205⟩, -, X205, ⟨Lc205, hQ205, l205, y205, z205⟩, st205⟩ := X191.specialBack hx (y := (⟨"java/lang/String", "<init>", "([C)V"⟩ : MethodName)) rfl hown13 (mvT hZ13 (hw _ (List.mem_of_getElem? (i := 69) rfl))) (mvT hZ13 (hw _ (List.mem_of_getElem? (i := 70) rfl))) (mvT hZ13 (hw _ (List.mem_of_getElem? (i := 71) rfl))) (by decide) (backOf (W := 3) (rmSI l Z a0 hw [] b191 b175 k175 (nar .char cv) cs h191 n0 O_191 A191 g_b191 F191_value F191_coder f206 hch f207 hcs) hZ13 (hw _ (List.mem_of_getElem? (i := 71) rfl)) (hw _ (List.mem_of_getElem? (i := 32) rfl)) (by decide) (by decide)) (g := (mkF m 133 #[.val (.int i0), .val (.int i1), .val (.ref fb1), .val (.int (2 : Int32)), .val (.ref a_FRONT_GREY), .val (.ref b175), .unset] [(.ref b175), (.ref b191), (.ref b191), (.int (2 : Int32)), (.ref fb1)])) rfl (by rw [hml]; rfl) (Steps.refl _) (a := b191) (argsL := [(.ref b175)]) (rest := [(.ref b191), (.int (2 : Int32)), (.ref fb1)]) (lenOf pd_11 rfl) rfl (by show 2 * 0 + _ ≤ _; exact Nat.le_of_eq rfl) (hb hby at_133) (fun _ _ => ⟨rfl, e191, (by decide : 11 + 1 ≤ _), (by decide : 126 + 1 ≤ _)⟩)
    dsimp only [Pt.U, Pt.locs, Pt.cells, Pt.slots] at X205 l205 y205 z205 st205 hQ205
    subst l205 y205 z205
    obtain ⟨rfl, Nq205, Kp205, Ex205⟩ := hQ205
    have Sf208 := Safe.keep Kp205 (sfS Sf_b191 sf0) CH204.1 Sf203
    have Sf209 := Safe.keep Kp205 (sfS Sf_b191 sf0) CH204.1 Sf_b191
    have CH210 := CH204.trans (CHr.keep Kp205 (sfS Sf_b191 sf0) CH204.1)
    have O_205 := O_191.keep Kp205 (allS g_b191 all0)
    have N205 := Fr.app N188 Nq205
    refine GoesW.via (B := T205.setTop (mkF m 136 #[.val (.int i0), .val (.int i1), .val (.ref fb1), .val (.int (2 : Int32)), .val (.ref a_FRONT_GREY), .val (.ref b175), .unset] [(.ref b191), (.int (2 : Int32)), (.ref fb1)])) st205 ?_
    have f211 := ((f202.ext E191).keep Kp205 (ninS ne_fb1_b191 nin0))
    obtain ⟨c212, Ar212, q212, Sz212, Nn212, Hs212, Gs212⟩ := id f211
    have hin212 : ¬ ((2 : Int32) < 0 ∨ c212.slots.size ≤ ((2 : Int32)).toNatClampNeg) := inb_of Sz212 ⟨by decide, by decide⟩
    obtain ⟨T212, h212, X212, e212, W212, st212⟩ := stR X205 hx hZ13 rfl Ar212 (j := (2 : Int32)) hin212 rfl (Sto.ofV Ar212 q212 Ob1 (Ins.self Ex205)) (g := (mkF m 136 #[.val (.int i0), .val (.int i1), .val (.ref fb1), .val (.int (2 : Int32)), .val (.ref a_FRONT_GREY), .val (.ref b175), .unset] [(.ref b191), (.int (2 : Int32)), (.ref fb1)])) rfl rfl (hb hby at_136)
    have Sf213 := Safe.wr W212 (Safe.arv hZ13.alike f211 (by decide)) CH210.1 Sf208
    have Sf214 := Safe.wr W212 (Safe.arv hZ13.alike f211 (by decide)) CH210.1 Sf209
    have CH215 := CH210.trans (CHr.wr W212 (Safe.arv hZ13.alike f211 (by decide)) CH210.1)
    have V212 : Arv Z h212 fb1 fk1 (.object "java/lang/String") (3 : Int32) [(.ref a_FRONT_BW_indicator), (.ref a_BACK_BW_indicator), (.ref b191)] .null := Arv.set Ar212 q212 Sz212 Nn212 Hs212 Gs212 rfl W212 2 rfl (Nat.le_of_ble_eq_true rfl)
    have N212 := Fr.snoc X212 N205 gb1
    have O_212 := O_205.wr W212 gb1
    refine GoesW.step (B := T212.setTop (mkF m 137 #[.val (.int i0), .val (.int i1), .val (.ref fb1), .val (.int (2 : Int32)), .val (.ref a_FRONT_GREY), .val (.ref b175), .unset] [])) st212 ?_
    have f217 := E__VALUES.ext O_212.2
    have lt_a__VALUES_216 := f217.lt
    have f218 := E_FRONT_BW.ext O_212.2
    have lt_a_FRONT_BW_216 := f218.lt
    have f219 := E_BACK_BW.ext O_212.2
    have lt_a_BACK_BW_216 := f219.lt
    have f220 := E_FRONT_GREY.ext O_212.2
    have lt_a_FRONT_GREY_216 := f220.lt
    have f221 := E_FRONT_BW_indicator.ext O_212.2
    have lt_a_FRONT_BW_indicator_216 := f221.lt
    have f222 := E_BACK_BW_indicator.ext O_212.2
    have lt_a_BACK_BW_indicator_216 := f222.lt
    have f223 := E_FRONT_GREY_indicator.ext O_212.2
    have lt_a_FRONT_GREY_indicator_216 := f223.lt
    have f224 := V_FRONT_BW_indicator_value.ext O_212.2
    have lt_a_FRONT_BW_indicator_value_216 := f224.lt
    have f225 := V_BACK_BW_indicator_value.ext O_212.2
    have lt_a_BACK_BW_indicator_value_216 := f225.lt
    have f226 := V_FRONT_GREY_indicator_value.ext O_212.2
    have lt_a_FRONT_GREY_indicator_value_216 := f226.lt
    have lt_fb1_216 := V212.lt
    have f227 := ((f206.keep Kp205 (ninS ne_b175_b191 nin0)).other W212 (Ne.symm ne_fb1_b175))
    have lt_b175_216 := f227.lt
    have f228 := (Ex205.wr W212)
    have lt_b191_216 := f228.lt
    obtain ⟨_, _, ⟨T216, L216, k216, n216⟩, -, X216, ⟨Lc216, hQ216, l216, y216, z216⟩, st216⟩ := Jvm.LawKit.callS X212 hx (y := (⟨"com/example/gridclear/gridclear/image/ImageView$Side", "indicators", "()[Ljava/lang/String;"⟩ : MethodName)) hown13 (mvT hZ13 (hw _ (List.mem_of_getElem? (i := 0) rfl))) (mvT hZ13 (hw _ (List.mem_of_getElem? (i := 1) rfl))) (mvT hZ13 (hw _ (List.mem_of_getElem? (i := 2) rfl))) (mvT hZ13 (hw _ (List.mem_of_getElem? (i := 3) rfl))) (by decide) (backOf (W := 0) (rm1 l Z a0 hw [] a__VALUES a_FRONT_BW a_BACK_BW a_FRONT_GREY a_FRONT_BW_indicator a_BACK_BW_indicator a_FRONT_GREY_indicator a_FRONT_BW_indicator_value a_BACK_BW_indicator_value a_FRONT_GREY_indicator_value k__VALUES k_FRONT_BW_indicator_value k_BACK_BW_indicator_value k_FRONT_GREY_indicator_value cs h212 n0 O_212 FS) hZ13 (hw _ (List.mem_of_getElem? (i := 3) rfl)) (hw _ (List.mem_of_getElem? (i := 2) rfl)) (by decide) (by decide)) (g := (mkF m 137 #[.val (.int i0), .val (.int i1), .val (.ref fb1), .val (.int (2 : Int32)), .val (.ref a_FRONT_GREY), .val (.ref b175), .unset] [])) rfl (by rw [hml]; rfl) (argsL := []) (rest := []) (lenOf pd_7 rfl) rfl (by show 2 * 0 + _ ≤ _; exact Nat.le_of_eq rfl) (hb hby at_137) (fun _ _ => ⟨rfl, e212, (by decide : 12 + 2 ≤ _), (by decide : 127 + 6 ≤ _)⟩)
    dsimp only [Pt.U, Pt.locs, Pt.cells, Pt.slots] at X216 l216 y216 z216 st216 hQ216
    subst l216 y216 z216
    obtain ⟨fb216, fk216, rfl, Nq216, Kp216, gb216, sb216, Vb216, Ob216⟩ := hQ216
    have ne_a__VALUES_fb216 : a__VALUES ≠ fb216 := Nat.ne_of_lt (Nat.lt_of_lt_of_le lt_a__VALUES_216 sb216)
    have ne_a_FRONT_BW_fb216 : a_FRONT_BW ≠ fb216 := Nat.ne_of_lt (Nat.lt_of_lt_of_le lt_a_FRONT_BW_216 sb216)
    have ne_a_BACK_BW_fb216 : a_BACK_BW ≠ fb216 := Nat.ne_of_lt (Nat.lt_of_lt_of_le lt_a_BACK_BW_216 sb216)
    have ne_a_FRONT_GREY_fb216 : a_FRONT_GREY ≠ fb216 := Nat.ne_of_lt (Nat.lt_of_lt_of_le lt_a_FRONT_GREY_216 sb216)
    have ne_a_FRONT_BW_indicator_fb216 : a_FRONT_BW_indicator ≠ fb216 := Nat.ne_of_lt (Nat.lt_of_lt_of_le lt_a_FRONT_BW_indicator_216 sb216)
    have ne_a_BACK_BW_indicator_fb216 : a_BACK_BW_indicator ≠ fb216 := Nat.ne_of_lt (Nat.lt_of_lt_of_le lt_a_BACK_BW_indicator_216 sb216)
    have ne_a_FRONT_GREY_indicator_fb216 : a_FRONT_GREY_indicator ≠ fb216 := Nat.ne_of_lt (Nat.lt_of_lt_of_le lt_a_FRONT_GREY_indicator_216 sb216)
    have ne_a_FRONT_BW_indicator_value_fb216 : a_FRONT_BW_indicator_value ≠ fb216 := Nat.ne_of_lt (Nat.lt_of_lt_of_le lt_a_FRONT_BW_indicator_value_216 sb216)
    have ne_a_BACK_BW_indicator_value_fb216 : a_BACK_BW_indicator_value ≠ fb216 := Nat.ne_of_lt (Nat.lt_of_lt_of_le lt_a_BACK_BW_indicator_value_216 sb216)
    have ne_a_FRONT_GREY_indicator_value_fb216 : a_FRONT_GREY_indicator_value ≠ fb216 := Nat.ne_of_lt (Nat.lt_of_lt_of_le lt_a_FRONT_GREY_indicator_value_216 sb216)
    have ne_fb1_fb216 : fb1 ≠ fb216 := Nat.ne_of_lt (Nat.lt_of_lt_of_le lt_fb1_216 sb216)
    have ne_b175_fb216 : b175 ≠ fb216 := Nat.ne_of_lt (Nat.lt_of_lt_of_le lt_b175_216 sb216)
    have ne_b191_fb216 : b191 ≠ fb216 := Nat.ne_of_lt (Nat.lt_of_lt_of_le lt_b191_216 sb216)
    have Sf229 := Safe.keep Kp216 sf0 CH215.1 Sf213
    have Sf230 := Safe.keep Kp216 sf0 CH215.1 Sf214
    have CH231 := CH215.trans (CHr.keep Kp216 sf0 CH215.1)
    have O_216 := O_212.keep Kp216 all0
    have N216 := Fr.app N212 Nq216
    refine GoesW.step (B := T216.setTop (mkF m 140 #[.val (.int i0), .val (.int i1), .val (.ref fb1), .val (.int (2 : Int32)), .val (.ref a_FRONT_GREY), .val (.ref b175), .unset] [(.ref fb216)])) st216 ?_
    refine GoesW.step (B := T216.setTop (mkF m 142 #[.val (.int i0), .val (.int i1), .val (.ref fb1), .val (.int (2 : Int32)), .val (.ref a_FRONT_GREY), .val (.ref b175), .val (.ref fb216)] [])) (fun _ k => XS.astore X216.here hx rfl (hb hby at_140) rfl rfl (l' := #[.val (.int i0), .val (.int i1), .val (.ref fb1), .val (.int (2 : Int32)), .val (.ref a_FRONT_GREY), .val (.ref b175), .val (.ref fb216)]) rfl k) ?_
    refine GoesW.step (B := T216.setTop (mkF m 144 #[.val (.int i0), .val (.int i1), .val (.ref fb1), .val (.int (2 : Int32)), .val (.ref a_FRONT_GREY), .val (.ref b175), .val (.ref fb216)] [(.ref fb216)])) (fun _ k => XS.aload X216.here hx rfl (hb hby at_142) rfl rfl k) ?_
    refine GoesW.step (B := T216.setTop (mkF m 145 #[.val (.int i0), .val (.int i1), .val (.ref fb1), .val (.int (2 : Int32)), .val (.ref a_FRONT_GREY), .val (.ref b175), .val (.ref fb216)] [(.ref fb1), (.ref fb216)])) (fun _ k => XS.aloadN X216.here hx rfl (hb hby at_144) rfl rfl k) ?_
    refine GoesW.step (B := T216.setTop (mkF m 150 #[.val (.int i0), .val (.int i1), .val (.ref fb1), .val (.int (2 : Int32)), .val (.ref a_FRONT_GREY), .val (.ref b175), .val (.ref fb216)] [])) (fun _ k => Jvm.RoadKit.acmp (g := (mkF m 145 #[.val (.int i0), .val (.int i1), .val (.ref fb1), .val (.int (2 : Int32)), .val (.ref a_FRONT_GREY), .val (.ref b175), .val (.ref fb216)] [(.ref fb1), (.ref fb216)])) X216 hx rfl rfl rfl (pc0 := 145) (pc' := 150) (same := false) rfl (hb hby at_145) rfl (decide_eq_false fun q => (Ne.symm ne_fb1_fb216) (Value.ref.inj q)) (by decide) (by decide) k) ?_
    refine GoesW.step (B := T216.setTop (mkF m 152 #[.val (.int i0), .val (.int i1), .val (.ref fb1), .val (.int (2 : Int32)), .val (.ref a_FRONT_GREY), .val (.ref b175), .val (.ref fb216)] [(.ref fb216)])) (fun _ k => XS.aload X216.here hx rfl (hb hby at_150) rfl rfl k) ?_
    obtain ⟨_, vw232, ⟨T232, L232, k232, n232⟩, -, Xr232, S2232, sz232, ⟨Lc232, hQ232, l232, y232, z232, Hc232⟩, st232⟩ := callSS X216 hx (y := (⟨"com/example/gridclear/gridclear/image/SideIndicatorsPinLaw", "exact", "([Ljava/lang/String;)Z"⟩ : MethodName)) hown13 (mvT hZ13 (hw _ (List.mem_of_getElem? (i := 27) rfl))) (mvT hZ13 (hw _ (List.mem_of_getElem? (i := 28) rfl))) (mvT hZ13 (hw _ (List.mem_of_getElem? (i := 29) rfl))) (mvT hZ13 (hw _ (List.mem_of_getElem? (i := 30) rfl))) (by decide) (backOfSH (W := 0) (rm3 l Z a0 hw [] fb216 fk216 a__VALUES a_FRONT_BW a_BACK_BW a_FRONT_GREY a_FRONT_BW_indicator a_BACK_BW_indicator a_FRONT_GREY_indicator a_FRONT_BW_indicator_value a_BACK_BW_indicator_value a_FRONT_GREY_indicator_value k__VALUES k_FRONT_BW_indicator_value k_BACK_BW_indicator_value k_FRONT_GREY_indicator_value cs T216.heap n0 O_216 FS Vb216) hZ13 (hw _ (List.mem_of_getElem? (i := 30) rfl)) (hw _ (List.mem_of_getElem? (i := 29) rfl)) (by decide) (by decide) (own_EW hw) CH231.1) (g := (mkF m 152 #[.val (.int i0), .val (.int i1), .val (.ref fb1), .val (.int (2 : Int32)), .val (.ref a_FRONT_GREY), .val (.ref b175), .val (.ref fb216)] [(.ref fb216)])) rfl (by rw [hml]; rfl) (argsL := [(.ref fb216)]) (rest := []) (lenOf pd_8 rfl) rfl (by show 2 * 0 + _ ≤ _; exact Nat.le_of_eq rfl) (hb hby at_152) (fun _ _ => ⟨rfl, rfl, (by decide : 14 + 6 ≤ _), (by decide : 133 + 112 ≤ _)⟩)
    dsimp only [Pt.U, Pt.locs, Pt.cells, Pt.slots] at Xr232 S2232 sz232 l232 y232 z232 st232 hQ232 Hc232
    subst l232 y232 z232
    obtain ⟨X232, hS232, hZ232, hown232⟩ := rebS hS13 (by exact (Nat.le_trans (Nat.le_trans (Nat.le_trans (Nat.le_trans (Nat.le_trans (Nat.le_trans (Nat.le_trans (Nat.le_refl _) Kp173.1) E175.1) (Nat.le_of_eq W188.size.symm)) E191.1) Kp205.1) (Nat.le_of_eq W212.size.symm)) Kp216.1)) Xr232 S2232 sz232 hZ13 hown13
    have CHc232 := CH231.trans Hc232
    obtain ⟨rfl, Nq232, Kp232⟩ := hQ232
    have f234 := (f227.keep Kp216 nin0)
    have Sf233 := CHr.safe Hc232 f234.lt Sf229
    have f236 := (f228.keep Kp216)
    have Sf235 := CHr.safe Hc232 f236.lt Sf230
    have O_232 := O_216.keep Kp232 all0
    have N232 := Fr.app N216 Nq232
    refine GoesW.via (B := T232.setTop (mkF m 155 #[.val (.int i0), .val (.int i1), .val (.ref fb1), .val (.int (2 : Int32)), .val (.ref a_FRONT_GREY), .val (.ref b175), .val (.ref fb216)] [(.int (1 : Int32))])) st232 ?_
    exact GoesW.retN X232 hS232 (Nat.le_refl _) hx rfl (t := .boolean) Bd.returns (by simp) hlk (hb hby at_155) (by decide) (by decide) (⟨rfl, N232⟩)
set_option maxRecDepth 65536 in
set_option maxHeartbeats 40000000 in
theorem comes_1 {Post : Tables → Env → Array Value → State → Outcome → State → Prop} (hpost : ∀ tb e args s v u, (limb_1_1.after args s (.returned v) u = true ∧ limb_1_2.after args s (.returned v) u = true ∧ True) → ReturnedEndW s (.returned v) u (Jvm.fieldLocs frame_1_writes args s ++ Jvm.arrayLocs frame_1_arrays args s ++ Jvm.staticLocs frame_1_statics s) 32 3200 → Post tb e args s (.returned v) u) :
    ArmFor flags0 classFile x code maxLocals ret World_1 tables_1 room_1 Calls_1 rest_1 Pre_1 Post := by
  intro l hfl _ _ p e ha hc hk s m args below hf hA hF happ hP
  obtain ⟨hcalls, hrest, hpre⟩ := hP
  obtain ⟨-, -, -, hnamed, -, -, -, hat⟩ := (Spec.applies_iff hf).mp happ
  obtain ⟨hg, hn⟩ := and_e (Cond.before_iff.mp (show (Jvm.Cond.and given_1 narrow_1).before args s = true from hpre))
  obtain ⟨hcount, hg⟩ := and_e hg
  obtain ⟨w0, w1, rfl⟩ : ∃ w0 w1 : Value, args = #[w0, w1] := by
    have hs : args.size = 2 := by simpa [Cond.value, given_1] using hcount
    obtain ⟨L⟩ := args
    match L, hs with
    | [w0, w1], _ => exact ⟨w0, w1, rfl⟩
  have hw := fun d (hd : d ∈ tables_1) => atoms_spec (ws := Jvm.Cond.code x code maxLocals ret :: tables_1) hat d (List.mem_cons_of_mem _ hd)
  have hfit : Fit s := fun {y c} hc i hi => by
    obtain ⟨ha, rfl⟩ := Array.getElem?_eq_some_iff.mp hc
    have q := List.all_eq_true.mp ((Array.all_eq_true_iff_forall_mem.mp hF) _ (Array.getElem_mem ha)) i (List.mem_range.mpr hi)
    simpa [Array.getElem?_eq_getElem hi] using q
  obtain ⟨hi0, hg0⟩ := and_e hg
  obtain ⟨i0, ei0⟩ := is_v hi0
  obtain rfl : w0 = (.int i0) := Option.some.inj ei0
  obtain ⟨i1, ei1⟩ := is_v hg0
  obtain rfl : w1 = (.int i1) := Option.some.inj ei1
  obtain ⟨hsets, hown0⟩ := atoms_of _ (rest_1_c_eq ▸ (show rest_1_c.before _ s = true from hrest))
  obtain ⟨hn0, hr0⟩ := and_e hn
  obtain ⟨hn1, hr1⟩ := and_e hr0
  obtain ⟨hn2, hr2⟩ := and_e hr1
  obtain ⟨hn3, hr3⟩ := and_e hr2
  obtain ⟨hn4, hr4⟩ := and_e hr3
  obtain ⟨hn5, hr5⟩ := and_e hr4
  obtain ⟨hn6, hr6⟩ := and_e hr5
  obtain ⟨hn7, hr7⟩ := and_e hr6
  obtain ⟨hn8, hr8⟩ := and_e hr7
  obtain ⟨hn9, hr9⟩ := and_e hr8
  obtain ⟨hn10, hr10⟩ := and_e hr9
  obtain ⟨hn11, hr11⟩ := and_e hr10
  obtain ⟨hn12, hr12⟩ := and_e hr11
  obtain ⟨hn13, hr13⟩ := and_e hr12
  obtain ⟨hn14, hr14⟩ := and_e hr13
  obtain ⟨hn15, hr15⟩ := and_e hr14
  obtain ⟨hn16, hr16⟩ := and_e hr15
  obtain ⟨hn17, hr17⟩ := and_e hr16
  obtain ⟨hn18, hr18⟩ := and_e hr17
  obtain ⟨hn19, hr19⟩ := and_e hr18
  obtain ⟨hn20, hr20⟩ := and_e hr19
  obtain ⟨hn21, hr21⟩ := and_e hr20
  obtain ⟨hn22, hr22⟩ := and_e hr21
  obtain ⟨hn23, hr23⟩ := and_e hr22
  obtain ⟨hn24, hr24⟩ := and_e hr23
  obtain ⟨hn25, hr25⟩ := and_e hr24
  obtain ⟨hn26, hr26⟩ := and_e hr25
  obtain ⟨hn27, hr27⟩ := and_e hr26
  obtain ⟨hn28, hr28⟩ := and_e hr27
  obtain ⟨hn29, hr29⟩ := and_e hr28
  obtain ⟨hn30, hr30⟩ := and_e hr29
  obtain ⟨hn31, hr31⟩ := and_e hr30
  obtain ⟨hn32, hr32⟩ := and_e hr31
  obtain ⟨hn33, hr33⟩ := and_e hr32
  obtain ⟨hn34, hr34⟩ := and_e hr33
  obtain ⟨hn35, hr35⟩ := and_e hr34
  obtain ⟨hn36, hr36⟩ := and_e hr35
  obtain ⟨hn37, hr37⟩ := and_e hr36
  obtain ⟨hn38, hr38⟩ := and_e hr37
  obtain ⟨hn39, hr39⟩ := and_e hr38
  obtain ⟨hn40, hr40⟩ := and_e hr39
  obtain ⟨hn41, hr41⟩ := and_e hr40
  obtain ⟨hn42, hr42⟩ := and_e hr41
  obtain ⟨hn43, hr43⟩ := and_e hr42
  obtain ⟨hn44, hr44⟩ := and_e hr43
  obtain ⟨hn45, hr45⟩ := and_e hr44
  obtain ⟨hn46, hr46⟩ := and_e hr45
  obtain ⟨hn47, hr47⟩ := and_e hr46
  obtain ⟨a__VALUES, ev__VALUES⟩ := arr_v hn0
  have S__VALUES := Sta.start ev__VALUES (Or.inr ⟨(hw _ (List.mem_of_getElem? (i := 2) rfl)), (hw _ (List.mem_of_getElem? (i := 8) rfl))⟩)
  obtain ⟨c__VALUES, A__VALUES⟩ := Arr.start ev__VALUES hn0
  have E__VALUES := Exa.start ev__VALUES hn1
  obtain ⟨a_FRONT_BW, ev_FRONT_BW⟩ := exa_v hn3
  have S_FRONT_BW := Sta.start ev_FRONT_BW (Or.inr ⟨(hw _ (List.mem_of_getElem? (i := 2) rfl)), (hw _ (List.mem_of_getElem? (i := 16) rfl))⟩)
  have E_FRONT_BW := Exa.start ev_FRONT_BW hn3
  obtain ⟨a_BACK_BW, ev_BACK_BW⟩ := exa_v hn5
  have S_BACK_BW := Sta.start ev_BACK_BW (Or.inr ⟨(hw _ (List.mem_of_getElem? (i := 2) rfl)), (hw _ (List.mem_of_getElem? (i := 17) rfl))⟩)
  have E_BACK_BW := Exa.start ev_BACK_BW hn5
  obtain ⟨a_FRONT_GREY, ev_FRONT_GREY⟩ := exa_v hn7
  have S_FRONT_GREY := Sta.start ev_FRONT_GREY (Or.inr ⟨(hw _ (List.mem_of_getElem? (i := 2) rfl)), (hw _ (List.mem_of_getElem? (i := 18) rfl))⟩)
  have E_FRONT_GREY := Exa.start ev_FRONT_GREY hn7
  obtain ⟨a_FRONT_BW_indicator, ev_FRONT_BW_indicator⟩ := exa_v hn9
  have F_FRONT_BW_indicator : Fld s s.heap a_FRONT_BW "com/example/gridclear/gridclear/image/ImageView$Side" "indicator" "Ljava/lang/String;" (.ref a_FRONT_BW_indicator) := Fld.start ((fld_at ev_FRONT_BW).symm.trans ev_FRONT_BW_indicator)
  have E_FRONT_BW_indicator := Exa.start ev_FRONT_BW_indicator hn9
  obtain ⟨a_BACK_BW_indicator, ev_BACK_BW_indicator⟩ := exa_v hn10
  have F_BACK_BW_indicator : Fld s s.heap a_BACK_BW "com/example/gridclear/gridclear/image/ImageView$Side" "indicator" "Ljava/lang/String;" (.ref a_BACK_BW_indicator) := Fld.start ((fld_at ev_BACK_BW).symm.trans ev_BACK_BW_indicator)
  have E_BACK_BW_indicator := Exa.start ev_BACK_BW_indicator hn10
  obtain ⟨a_FRONT_GREY_indicator, ev_FRONT_GREY_indicator⟩ := exa_v hn11
  have F_FRONT_GREY_indicator : Fld s s.heap a_FRONT_GREY "com/example/gridclear/gridclear/image/ImageView$Side" "indicator" "Ljava/lang/String;" (.ref a_FRONT_GREY_indicator) := Fld.start ((fld_at ev_FRONT_GREY).symm.trans ev_FRONT_GREY_indicator)
  have E_FRONT_GREY_indicator := Exa.start ev_FRONT_GREY_indicator hn11
  have F_FRONT_BW_indicator_coder : Fld s s.heap a_FRONT_BW_indicator "java/lang/String" "coder" "B" (.int (0 : Int32)) := Fld.start ((fld_at ev_FRONT_BW_indicator).symm.trans (own_eqI hn12))
  obtain ⟨a_FRONT_BW_indicator_value, ev_FRONT_BW_indicator_value⟩ := arr_v hn13
  have F_FRONT_BW_indicator_value : Fld s s.heap a_FRONT_BW_indicator "java/lang/String" "value" "[B" (.ref a_FRONT_BW_indicator_value) := Fld.start ((fld_at ev_FRONT_BW_indicator).symm.trans ev_FRONT_BW_indicator_value)
  obtain ⟨c_FRONT_BW_indicator_value, A_FRONT_BW_indicator_value⟩ := Arr.start ev_FRONT_BW_indicator_value hn13
  have F_BACK_BW_indicator_coder : Fld s s.heap a_BACK_BW_indicator "java/lang/String" "coder" "B" (.int (0 : Int32)) := Fld.start ((fld_at ev_BACK_BW_indicator).symm.trans (own_eqI hn15))
  obtain ⟨a_BACK_BW_indicator_value, ev_BACK_BW_indicator_value⟩ := arr_v hn16
  have F_BACK_BW_indicator_value : Fld s s.heap a_BACK_BW_indicator "java/lang/String" "value" "[B" (.ref a_BACK_BW_indicator_value) := Fld.start ((fld_at ev_BACK_BW_indicator).symm.trans ev_BACK_BW_indicator_value)
  obtain ⟨c_BACK_BW_indicator_value, A_BACK_BW_indicator_value⟩ := Arr.start ev_BACK_BW_indicator_value hn16
  have F_FRONT_GREY_indicator_coder : Fld s s.heap a_FRONT_GREY_indicator "java/lang/String" "coder" "B" (.int (0 : Int32)) := Fld.start ((fld_at ev_FRONT_GREY_indicator).symm.trans (own_eqI hn18))
  obtain ⟨a_FRONT_GREY_indicator_value, ev_FRONT_GREY_indicator_value⟩ := arr_v hn19
  have F_FRONT_GREY_indicator_value : Fld s s.heap a_FRONT_GREY_indicator "java/lang/String" "value" "[B" (.ref a_FRONT_GREY_indicator_value) := Fld.start ((fld_at ev_FRONT_GREY_indicator).symm.trans ev_FRONT_GREY_indicator_value)
  obtain ⟨c_FRONT_GREY_indicator_value, A_FRONT_GREY_indicator_value⟩ := Arr.start ev_FRONT_GREY_indicator_value hn19
  have ne_a_FRONT_BW_indicator_a_FRONT_GREY_indicator : a_FRONT_BW_indicator ≠ a_FRONT_GREY_indicator := fun q => gotF (eq_R ev_FRONT_BW_indicator ev_FRONT_GREY_indicator rfl rfl) (not_v hn21) (congrArg Value.ref q)
  have ne_a_BACK_BW_indicator_a_FRONT_GREY_indicator : a_BACK_BW_indicator ≠ a_FRONT_GREY_indicator := fun q => gotF (eq_R ev_BACK_BW_indicator ev_FRONT_GREY_indicator rfl rfl) (not_v hn22) (congrArg Value.ref q)
  have ne_a_BACK_BW_indicator_a_FRONT_BW_indicator : a_BACK_BW_indicator ≠ a_FRONT_BW_indicator := fun q => gotF (eq_R ev_BACK_BW_indicator ev_FRONT_BW_indicator rfl rfl) (not_v hn23) (congrArg Value.ref q)
  obtain ⟨l1__VALUES, l2__VALUES⟩ := own_len A__VALUES ev__VALUES hn2
  have V__VALUES : Arv s s.heap a__VALUES c__VALUES.cls (.object "com/example/gridclear/gridclear/image/ImageView$Side") (3 : Int32) [(.ref a_FRONT_BW), (.ref a_BACK_BW), (.ref a_FRONT_GREY)] .null := Arv.start hfit A__VALUES l1__VALUES l2__VALUES (by decide) (by first | decide | rfl) (And.intro (own_elR A__VALUES ev__VALUES ev_FRONT_BW hn4) (And.intro (own_elR A__VALUES ev__VALUES ev_BACK_BW hn6) (And.intro (own_elR A__VALUES ev__VALUES ev_FRONT_GREY hn8) trivial)))
  obtain ⟨l1_FRONT_BW_indicator_value, l2_FRONT_BW_indicator_value⟩ := own_len A_FRONT_BW_indicator_value ev_FRONT_BW_indicator_value hn14
  have V_FRONT_BW_indicator_value : Arv s s.heap a_FRONT_BW_indicator_value c_FRONT_BW_indicator_value.cls .byte (8 : Int32) [(.int (70 : Int32)), (.int (114 : Int32)), (.int (111 : Int32)), (.int (110 : Int32)), (.int (116 : Int32)), (.int (32 : Int32)), (.int (66 : Int32)), (.int (87 : Int32))] (.int (0 : Int32)) := Arv.start hfit A_FRONT_BW_indicator_value l1_FRONT_BW_indicator_value l2_FRONT_BW_indicator_value (by decide) (by first | decide | rfl) (And.intro (own_el A_FRONT_BW_indicator_value ev_FRONT_BW_indicator_value hn24) (And.intro (own_el A_FRONT_BW_indicator_value ev_FRONT_BW_indicator_value hn25) (And.intro (own_el A_FRONT_BW_indicator_value ev_FRONT_BW_indicator_value hn26) (And.intro (own_el A_FRONT_BW_indicator_value ev_FRONT_BW_indicator_value hn27) (And.intro (own_el A_FRONT_BW_indicator_value ev_FRONT_BW_indicator_value hn28) (And.intro (own_el A_FRONT_BW_indicator_value ev_FRONT_BW_indicator_value hn29) (And.intro (own_el A_FRONT_BW_indicator_value ev_FRONT_BW_indicator_value hn30) (And.intro (own_el A_FRONT_BW_indicator_value ev_FRONT_BW_indicator_value hn31) trivial))))))))
  obtain ⟨l1_BACK_BW_indicator_value, l2_BACK_BW_indicator_value⟩ := own_len A_BACK_BW_indicator_value ev_BACK_BW_indicator_value hn17
  have V_BACK_BW_indicator_value : Arv s s.heap a_BACK_BW_indicator_value c_BACK_BW_indicator_value.cls .byte (7 : Int32) [(.int (66 : Int32)), (.int (97 : Int32)), (.int (99 : Int32)), (.int (107 : Int32)), (.int (32 : Int32)), (.int (66 : Int32)), (.int (87 : Int32))] (.int (0 : Int32)) := Arv.start hfit A_BACK_BW_indicator_value l1_BACK_BW_indicator_value l2_BACK_BW_indicator_value (by decide) (by first | decide | rfl) (And.intro (own_el A_BACK_BW_indicator_value ev_BACK_BW_indicator_value hn32) (And.intro (own_el A_BACK_BW_indicator_value ev_BACK_BW_indicator_value hn33) (And.intro (own_el A_BACK_BW_indicator_value ev_BACK_BW_indicator_value hn34) (And.intro (own_el A_BACK_BW_indicator_value ev_BACK_BW_indicator_value hn35) (And.intro (own_el A_BACK_BW_indicator_value ev_BACK_BW_indicator_value hn36) (And.intro (own_el A_BACK_BW_indicator_value ev_BACK_BW_indicator_value hn37) (And.intro (own_el A_BACK_BW_indicator_value ev_BACK_BW_indicator_value hn38) trivial)))))))
  obtain ⟨l1_FRONT_GREY_indicator_value, l2_FRONT_GREY_indicator_value⟩ := own_len A_FRONT_GREY_indicator_value ev_FRONT_GREY_indicator_value hn20
  have V_FRONT_GREY_indicator_value : Arv s s.heap a_FRONT_GREY_indicator_value c_FRONT_GREY_indicator_value.cls .byte (10 : Int32) [(.int (70 : Int32)), (.int (114 : Int32)), (.int (111 : Int32)), (.int (110 : Int32)), (.int (116 : Int32)), (.int (32 : Int32)), (.int (71 : Int32)), (.int (114 : Int32)), (.int (97 : Int32)), (.int (121 : Int32))] (.int (0 : Int32)) := Arv.start hfit A_FRONT_GREY_indicator_value l1_FRONT_GREY_indicator_value l2_FRONT_GREY_indicator_value (by decide) (by first | decide | rfl) (And.intro (own_el A_FRONT_GREY_indicator_value ev_FRONT_GREY_indicator_value hn39) (And.intro (own_el A_FRONT_GREY_indicator_value ev_FRONT_GREY_indicator_value hn40) (And.intro (own_el A_FRONT_GREY_indicator_value ev_FRONT_GREY_indicator_value hn41) (And.intro (own_el A_FRONT_GREY_indicator_value ev_FRONT_GREY_indicator_value hn42) (And.intro (own_el A_FRONT_GREY_indicator_value ev_FRONT_GREY_indicator_value hn43) (And.intro (own_el A_FRONT_GREY_indicator_value ev_FRONT_GREY_indicator_value hn44) (And.intro (own_el A_FRONT_GREY_indicator_value ev_FRONT_GREY_indicator_value hn45) (And.intro (own_el A_FRONT_GREY_indicator_value ev_FRONT_GREY_indicator_value hn46) (And.intro (own_el A_FRONT_GREY_indicator_value ev_FRONT_GREY_indicator_value hn47) (And.intro (own_el A_FRONT_GREY_indicator_value ev_FRONT_GREY_indicator_value hr47) trivial))))))))))
  obtain ⟨cs, ecs⟩ := is_v (Cond.before_iff.mp (hsets _ (List.mem_of_getElem? (i := 1) rfl)))
  have S_COMPACT_STRINGS := Sta.start ecs (Or.inl (hsets _ (List.mem_of_getElem? (i := 0) rfl)))
  have hcs : ¬ cs = (0 : Int32) := fun q => by
    have q2 := not_v (Cond.before_iff.mp (hsets _ (List.mem_of_getElem? (i := 2) rfl)))
    simp [Jvm.Cond.value, ecs, Term.int_eval, q] at q2
  have hcw : Jvm.Lit.compactW.before _ s = true := (hsets _ (List.mem_of_getElem? (i := 2) rfl))
  have FS : OwnSt s a__VALUES a_FRONT_BW a_BACK_BW a_FRONT_GREY a_FRONT_BW_indicator a_BACK_BW_indicator a_FRONT_GREY_indicator a_FRONT_BW_indicator_value a_BACK_BW_indicator_value a_FRONT_GREY_indicator_value c__VALUES.cls c_FRONT_BW_indicator_value.cls c_BACK_BW_indicator_value.cls c_FRONT_GREY_indicator_value.cls cs := ⟨S__VALUES, E__VALUES, S_FRONT_BW, E_FRONT_BW, S_BACK_BW, E_BACK_BW, S_FRONT_GREY, E_FRONT_GREY, F_FRONT_BW_indicator, E_FRONT_BW_indicator, F_BACK_BW_indicator, E_BACK_BW_indicator, F_FRONT_GREY_indicator, E_FRONT_GREY_indicator, F_FRONT_BW_indicator_coder, F_FRONT_BW_indicator_value, F_BACK_BW_indicator_coder, F_BACK_BW_indicator_value, F_FRONT_GREY_indicator_coder, F_FRONT_GREY_indicator_value, ne_a_FRONT_BW_indicator_a_FRONT_GREY_indicator, ne_a_BACK_BW_indicator_a_FRONT_GREY_indicator, ne_a_BACK_BW_indicator_a_FRONT_BW_indicator, V__VALUES, V_FRONT_BW_indicator_value, V_BACK_BW_indicator_value, V_FRONT_GREY_indicator_value, S_COMPACT_STRINGS, hcs⟩
  have hCHs : ∀ p ∈ own_EL, Jvm.Lit.constHeld s p.1 p.2 := fun p hp => by
    simp only [own_EL, List.mem_cons, List.not_mem_nil, or_false] at hp
    rcases hp with rfl | rfl | rfl
    · exact hcalls.1 _ (List.mem_of_getElem? (i := 0) rfl)
    · exact hcalls.1 _ (List.mem_of_getElem? (i := 1) rfl)
    · exact hcalls.1 _ (List.mem_of_getElem? (i := 2) rfl)
  have hH : CHv s own_EL s.vm s.heap := CHv.start (own_EW hw) hCHs hcw (hw _ (List.mem_of_getElem? (i := 34) rfl)) (hw _ (List.mem_of_getElem? (i := 33) rfl))
  obtain ⟨n, o, h1, h2, h3, _, L, rfl, ⟨rfl, N⟩, hq⟩ := rm0 l s _ hw tables_1 i0 i1 a__VALUES a_FRONT_BW a_BACK_BW a_FRONT_GREY a_FRONT_BW_indicator a_BACK_BW_indicator a_FRONT_GREY_indicator a_FRONT_BW_indicator_value a_BACK_BW_indicator_value a_FRONT_GREY_indicator_value c__VALUES.cls c_FRONT_BW_indicator_value.cls c_BACK_BW_indicator_value.cls c_FRONT_GREY_indicator_value.cls cs s.heap s.heap.size (Old.start s) FS p e ha hc hk s m _ below hf ((Spec.applies_iff_loose hf).mp happ).1 ⟨rfl, State.Warmed39.refl s, rfl, hH⟩ trivial
  refine ⟨n, _, h1, h2, h3, hpost _ _ _ _ _ _ ⟨Cond.after_iff.mpr rfl, Cond.after_iff.mpr (eq_i res_at (Term.int_eval (1)) rfl), trivial⟩ ⟨hq.1, hq.2.1, hq.2.2.1, (hq.2.2.2.sift fun y hy => Or.inr (N y hy)).mono (by decide) (by decide)⟩⟩
theorem main_1_1 : Claimed_1_1 := comes_1 fun _ _ _ _ _ _ h hF => ⟨h.1, hF⟩
theorem main_1_2 : Claimed_1_2 := comes_1 fun _ _ _ _ _ _ h hF => ⟨h.2.1, hF⟩
end Jvm.Pilot.@@N@@
namespace Jvm.Pilot.@@N@@
open Jvm Jvm.ClassFile Sem Op Lib Jvm.Free Jvm.Stand Jvm.Pilot.@@N@@.Jvm.D
/-! MADE BY PROGRAM (witnessworld.py) out of the Statement's table words and the real class files: 23 classes; the members and pool entries that the words name. The judged class is class 1, her method 2. -/
namespace start1
open Jvm.ClassFile
def u (s : String) : CpInfo := .utf8 (stringToUtf16 s)
/-- a pool by its gaps: so many unusable entries, then the entry; so many at the end -/
def gap : Nat → List CpInfo → List CpInfo
  | 0, r => r
  | n + 1, r => .unusable :: gap n r
def poolList (es : List (Nat × CpInfo)) (last : Nat) : List CpInfo := es.foldr (fun e r => gap e.1 (e.2 :: r)) (gap last [])
def pool (es : List (Nat × CpInfo)) (last : Nat) : Array CpInfo := ⟨poolList es last⟩
def fileOf (pool : Array CpInfo) (this : Nat) (attrs : Array Attribute := #[]) (ms : Array MethodInfo := #[]) (fl : Nat := 33) (sup : Nat := 0) (ifs : Array Nat := #[]) (fds : Array FieldInfo := #[]) : ClassFile where
  minorVersion := 0
  majorVersion := 65
  constantPool := pool
  accessFlags := fl
  thisClass := this
  superClass := sup
  interfaces := ifs
  fields := fds
  methods := ms
  attributes := attrs
def plain (name : String) (sup : Option ClassId) : Class where
  name := name
  kind := .ordinary
  loader := none
  accessFlags := 33
  super := sup
  interfaces := #[]
  cf := none
  fields := #[]
  methods := #[]
  instanceTypes := #[]
  staticTypes := #[]
  resolved := #[]
  callSites := []
  init := .initialized
  statics := none
  mirror := none

def pool0 : Array CpInfo := pool [(5, u "<init>"), (0, u "()V"), (1, .class_ 10), (1, u "java/lang/Object"), (85, u "clone"), (0, u "()Ljava/lang/Object;")] 26

def k0c0 : Code := { maxStack := 0, maxLocals := 1, code := object_method_1_code, exceptionTable := #[], attributes := #[] }
def k0m0 : Method := { name := "<init>", desc := "()V", sig := { parameters := [], returnType := none }, accessFlags := 1, code := some k0c0 }
def k0m1 : Method := { name := "clone", desc := "()Ljava/lang/Object;", sig := { parameters := [], returnType := some (.object "java/lang/Object") }, accessFlags := 260, code := none }
/-- java/lang/Object -/
def k0 : Class := { plain "java/lang/Object" none with
  accessFlags := 33
  interfaces := #[]
  cf := some (fileOf pool0 8 #[] #[{ accessFlags := 1, nameIndex := 5, descriptorIndex := 6, attributes := #[] }, { accessFlags := 260, nameIndex := 96, descriptorIndex := 97, attributes := #[] }] 33 0 #[] #[])
  fields := #[]
  methods := #[k0m0, k0m1]
  instanceTypes := #[]
  staticTypes := #[]
  resolved := Array.replicate 124 none
  statics := none }

def pool1 : Array CpInfo := pool [(2, .class_ 4), (1, u "java/lang/Object"), (0, u "<init>"), (0, u "()V"), (0, .string 8), (0, u "Front BW"), (0, .methodref 10 11), (0, .class_ 12), (0, .nameAndType 13 14), (0, u "java/lang/String"), (0, u "equals"), (0, u "(Ljava/lang/Object;)Z"), (0, .string 16), (0, u "Back BW"), (0, .string 18), (0, u "Front Gray"), (0, .methodref 20 21), (0, .class_ 22), (0, .nameAndType 23 24), (0, u "com/example/gridclear/gridclear/image/ImageView$Side"), (0, u "indicators"), (0, u "()[Ljava/lang/String;"), (0, .methodref 26 27), (0, .class_ 28), (0, .nameAndType 29 30), (0, u "com/example/gridclear/gridclear/image/SideIndicatorsPinLaw"), (0, u "exact"), (0, u "([Ljava/lang/String;)Z"), (0, .fieldref 20 32), (0, .nameAndType 33 34), (0, u "FRONT_BW"), (0, u "Lcom/example/gridclear/gridclear/image/ImageView$Side;"), (0, .methodref 20 36), (0, .nameAndType 37 38), (0, u "indicator"), (0, u "()Ljava/lang/String;"), (0, .fieldref 20 40), (0, .nameAndType 41 34), (0, u "BACK_BW"), (0, .fieldref 20 43), (0, .nameAndType 44 34), (0, u "FRONT_GREY"), (0, .integer 2147483647), (0, .methodref 20 47), (0, .nameAndType 48 49), (0, u "of"), (0, u "(Ljava/lang/String;)Lcom/example/gridclear/gridclear/image/ImageView$Side;"), (0, .methodref 10 51), (0, .nameAndType 5 52), (0, u "([C)V"), (3, u "law"), (0, u "(II)Z")] 10

def k1m0 : Method := { name := "<init>", desc := "()V", sig := { parameters := [], returnType := none }, accessFlags := 1, code := none }
def k1c1 : Code := { maxStack := 3, maxLocals := 1, code := method_2_code, exceptionTable := #[], attributes := #[] }
def k1m1 : Method := { name := "exact", desc := "([Ljava/lang/String;)Z", sig := { parameters := [(.array (.object "java/lang/String"))], returnType := some .boolean }, accessFlags := 10, code := some k1c1 }
def k1c2 : Code := { maxStack := 5, maxLocals := 7, code := code, exceptionTable := #[], attributes := #[] }
def k1m2 : Method := { name := "law", desc := "(II)Z", sig := { parameters := [.int, .int], returnType := some .boolean }, accessFlags := 9, code := some k1c2 }
/-- com/example/gridclear/gridclear/image/SideIndicatorsPinLaw -/
def k1 : Class := { plain "com/example/gridclear/gridclear/image/SideIndicatorsPinLaw" (some 0) with
  accessFlags := 49
  interfaces := #[]
  cf := some (fileOf pool1 26 #[] #[{ accessFlags := 1, nameIndex := 5, descriptorIndex := 6, attributes := #[] }, { accessFlags := 10, nameIndex := 29, descriptorIndex := 30, attributes := #[] }, { accessFlags := 9, nameIndex := 56, descriptorIndex := 57, attributes := #[] }] 49 2 #[] #[])
  fields := #[]
  methods := #[k1m0, k1m1, k1m2]
  instanceTypes := #[]
  staticTypes := #[]
  resolved := Array.replicate 68 none
  statics := none }

def pool2 : Array CpInfo := pool [(1, .class_ 2), (0, u "java/lang/constant/Constable"), (0, .class_ 4), (0, u "java/lang/Object")] 6

/-- java/lang/constant/Constable -/
def k2 : Class := { plain "java/lang/constant/Constable" (some 0) with
  accessFlags := 1537
  interfaces := #[]
  cf := some (fileOf pool2 1 #[] #[] 1537 3 #[] #[])
  fields := #[]
  methods := #[]
  instanceTypes := #[]
  staticTypes := #[]
  resolved := Array.replicate 11 none
  statics := none }

def pool3 : Array CpInfo := pool [(1, .class_ 2), (0, u "java/lang/Comparable"), (0, .class_ 4), (0, u "java/lang/Object")] 7

/-- java/lang/Comparable -/
def k3 : Class := { plain "java/lang/Comparable" (some 0) with
  accessFlags := 1537
  interfaces := #[]
  cf := some (fileOf pool3 1 #[] #[] 1537 3 #[] #[])
  fields := #[]
  methods := #[]
  instanceTypes := #[]
  staticTypes := #[]
  resolved := Array.replicate 12 none
  statics := none }

def pool4 : Array CpInfo := pool [(1, .class_ 2), (0, u "java/io/Serializable"), (0, .class_ 4), (0, u "java/lang/Object")] 2

/-- java/io/Serializable -/
def k4 : Class := { plain "java/io/Serializable" (some 0) with
  accessFlags := 1537
  interfaces := #[]
  cf := some (fileOf pool4 1 #[] #[] 1537 3 #[] #[])
  fields := #[]
  methods := #[]
  instanceTypes := #[]
  staticTypes := #[]
  resolved := Array.replicate 7 none
  statics := none }

def pool5 : Array CpInfo := pool [(2, .class_ 4), (1, u "java/lang/Enum"), (0, u "name"), (0, u "Ljava/lang/String;"), (2, u "ordinal"), (0, u "I"), (1, .class_ 14), (1, u "java/lang/Object"), (4, u "hash"), (86, .class_ 108), (1, u "java/lang/Enum$EnumDesc"), (2, .class_ 112), (0, u "java/lang/constant/Constable"), (0, .class_ 114), (0, u "java/lang/Comparable"), (0, .class_ 116), (0, u "java/io/Serializable")] 87

/-- java/lang/Enum -/
def k5 : Class := { plain "java/lang/Enum" (some 0) with
  accessFlags := 1057
  interfaces := #[2, 3, 4]
  cf := some (fileOf pool5 2 #[.nestMembers #[106]] #[] 1057 12 #[111, 113, 115] #[{ accessFlags := 18, nameIndex := 5, descriptorIndex := 6, attributes := #[] }, { accessFlags := 18, nameIndex := 9, descriptorIndex := 10, attributes := #[] }, { accessFlags := 2, nameIndex := 19, descriptorIndex := 10, attributes := #[] }])
  fields := #[{ name := "name", type := (.object "java/lang/String"), accessFlags := 18, slot := 0, constantValue := 0 }, { name := "ordinal", type := .int, accessFlags := 18, slot := 1, constantValue := 0 }, { name := "hash", type := .int, accessFlags := 2, slot := 2, constantValue := 0 }]
  methods := #[]
  instanceTypes := #[(.object "java/lang/String"), .int, .int]
  staticTypes := #[]
  resolved := Array.replicate 204 none
  statics := none }

def pool6 : Array CpInfo := pool [(1, .class_ 2), (0, u "com/example/gridclear/gridclear/image/ImageView$Side"), (2, u "FRONT_BW"), (0, u "Lcom/example/gridclear/gridclear/image/ImageView$Side;"), (2, u "BACK_BW"), (2, u "FRONT_GREY"), (0, .fieldref 1 14), (0, .nameAndType 15 16), (0, u "$VALUES"), (0, u "[Lcom/example/gridclear/gridclear/image/ImageView$Side;"), (0, .methodref 18 19), (0, .class_ 16), (0, .nameAndType 20 21), (0, u "clone"), (0, u "()Ljava/lang/Object;"), (1, .class_ 25), (1, u "java/lang/Enum"), (6, .fieldref 1 33), (0, .nameAndType 34 35), (0, u "indicator"), (0, u "Ljava/lang/String;"), (2, u "column"), (0, .methodref 1 40), (0, .nameAndType 41 42), (0, u "values"), (0, u "()[Lcom/example/gridclear/gridclear/image/ImageView$Side;"), (0, .class_ 44), (0, u "java/lang/String"), (0, .methodref 43 46), (0, .nameAndType 47 48), (0, u "equals"), (0, u "(Ljava/lang/Object;)Z"), (32, u "(Ljava/lang/String;)Lcom/example/gridclear/gridclear/image/ImageView$Side;"), (3, u "()Ljava/lang/String;"), (0, u "indicators"), (0, u "()[Ljava/lang/String;"), (3, u "of"), (6, .class_ 99), (0, u "com/example/gridclear/gridclear/image/ImageView")] 16

def k6c0 : Code := { maxStack := 1, maxLocals := 0, code := prog_73_method_1_code, exceptionTable := #[], attributes := #[] }
def k6m0 : Method := { name := "values", desc := "()[Lcom/example/gridclear/gridclear/image/ImageView$Side;", sig := { parameters := [], returnType := some (.array (.object "com/example/gridclear/gridclear/image/ImageView$Side")) }, accessFlags := 9, code := some k6c0 }
def k6c1 : Code := { maxStack := 1, maxLocals := 1, code := prog_73_method_4_code, exceptionTable := #[], attributes := #[] }
def k6m1 : Method := { name := "indicator", desc := "()Ljava/lang/String;", sig := { parameters := [], returnType := some (.object "java/lang/String") }, accessFlags := 1, code := some k6c1 }
def k6c2 : Code := { maxStack := 4, maxLocals := 3, code := prog_73_method_6_code, exceptionTable := #[], attributes := #[] }
def k6m2 : Method := { name := "indicators", desc := "()[Ljava/lang/String;", sig := { parameters := [], returnType := some (.array (.object "java/lang/String")) }, accessFlags := 9, code := some k6c2 }
def k6c3 : Code := { maxStack := 3, maxLocals := 5, code := prog_73_method_7_code, exceptionTable := #[], attributes := #[] }
def k6m3 : Method := { name := "of", desc := "(Ljava/lang/String;)Lcom/example/gridclear/gridclear/image/ImageView$Side;", sig := { parameters := [(.object "java/lang/String")], returnType := some (.object "com/example/gridclear/gridclear/image/ImageView$Side") }, accessFlags := 9, code := some k6c3 }
/-- com/example/gridclear/gridclear/image/ImageView$Side -/
def k6 : Class := { plain "com/example/gridclear/gridclear/image/ImageView$Side" (some 5) with
  accessFlags := 16433
  interfaces := #[]
  cf := some (fileOf pool6 1 #[.nestHost 98] #[{ accessFlags := 9, nameIndex := 41, descriptorIndex := 42, attributes := #[] }, { accessFlags := 1, nameIndex := 34, descriptorIndex := 85, attributes := #[] }, { accessFlags := 9, nameIndex := 86, descriptorIndex := 87, attributes := #[] }, { accessFlags := 9, nameIndex := 91, descriptorIndex := 81, attributes := #[] }] 16433 23 #[] #[{ accessFlags := 16409, nameIndex := 5, descriptorIndex := 6, attributes := #[] }, { accessFlags := 16409, nameIndex := 9, descriptorIndex := 6, attributes := #[] }, { accessFlags := 16409, nameIndex := 12, descriptorIndex := 6, attributes := #[] }, { accessFlags := 18, nameIndex := 34, descriptorIndex := 35, attributes := #[] }, { accessFlags := 18, nameIndex := 38, descriptorIndex := 35, attributes := #[] }, { accessFlags := 4122, nameIndex := 15, descriptorIndex := 16, attributes := #[] }])
  fields := #[{ name := "FRONT_BW", type := (.object "com/example/gridclear/gridclear/image/ImageView$Side"), accessFlags := 16409, slot := 0, constantValue := 0 }, { name := "BACK_BW", type := (.object "com/example/gridclear/gridclear/image/ImageView$Side"), accessFlags := 16409, slot := 1, constantValue := 0 }, { name := "FRONT_GREY", type := (.object "com/example/gridclear/gridclear/image/ImageView$Side"), accessFlags := 16409, slot := 2, constantValue := 0 }, { name := "indicator", type := (.object "java/lang/String"), accessFlags := 18, slot := 3, constantValue := 0 }, { name := "column", type := (.object "java/lang/String"), accessFlags := 18, slot := 4, constantValue := 0 }, { name := "$VALUES", type := (.array (.object "com/example/gridclear/gridclear/image/ImageView$Side")), accessFlags := 4122, slot := 3, constantValue := 0 }]
  methods := #[k6m0, k6m1, k6m2, k6m3]
  instanceTypes := #[(.object "java/lang/String"), .int, .int, (.object "java/lang/String"), (.object "java/lang/String")]
  staticTypes := #[(.object "com/example/gridclear/gridclear/image/ImageView$Side"), (.object "com/example/gridclear/gridclear/image/ImageView$Side"), (.object "com/example/gridclear/gridclear/image/ImageView$Side"), (.array (.object "com/example/gridclear/gridclear/image/ImageView$Side"))]
  resolved := Array.replicate 116 none
  statics := some 0 }

def pool7 : Array CpInfo := pool [(1, .class_ 2), (0, u "java/lang/Cloneable"), (0, .class_ 4), (0, u "java/lang/Object")] 2

/-- java/lang/Cloneable -/
def k7 : Class := { plain "java/lang/Cloneable" (some 0) with
  accessFlags := 1537
  interfaces := #[]
  cf := some (fileOf pool7 1 #[] #[] 1537 3 #[] #[])
  fields := #[]
  methods := #[]
  instanceTypes := #[]
  staticTypes := #[]
  resolved := Array.replicate 7 none
  statics := none }

def pool8 : Array CpInfo := pool [(2, .class_ 4), (1, u "java/lang/CharSequence"), (42, .class_ 48), (0, u "java/lang/CharSequence$1CodePointIterator"), (10, .class_ 60), (0, u "java/lang/CharSequence$1CharIterator"), (5, .class_ 67), (0, u "java/lang/Object")] 63

/-- java/lang/CharSequence -/
def k8 : Class := { plain "java/lang/CharSequence" (some 0) with
  accessFlags := 1537
  interfaces := #[]
  cf := some (fileOf pool8 2 #[.nestMembers #[47, 59]] #[] 1537 66 #[] #[])
  fields := #[]
  methods := #[]
  instanceTypes := #[]
  staticTypes := #[]
  resolved := Array.replicate 131 none
  statics := none }

def pool9 : Array CpInfo := pool [(1, .class_ 2), (0, u "java/lang/constant/ConstantDesc"), (0, .class_ 4), (0, u "java/lang/Object")] 32

/-- java/lang/constant/ConstantDesc -/
def k9 : Class := { plain "java/lang/constant/ConstantDesc" (some 0) with
  accessFlags := 1537
  interfaces := #[]
  cf := some (fileOf pool9 1 #[] #[] 1537 3 #[] #[])
  fields := #[]
  methods := #[]
  instanceTypes := #[]
  staticTypes := #[]
  resolved := Array.replicate 37 none
  statics := none }

def pool10 : Array CpInfo := pool [(1, .methodref 2 3), (0, .class_ 4), (0, .nameAndType 5 6), (0, u "java/lang/Object"), (0, u "<init>"), (0, u "()V"), (2, .fieldref 10 11), (0, .class_ 12), (0, .nameAndType 13 14), (0, u "java/lang/String"), (0, u "value"), (0, u "[B"), (0, .fieldref 10 16), (0, .nameAndType 17 18), (0, u "coder"), (0, u "B"), (2, u "hash"), (0, u "I"), (2, u "hashIsZero"), (0, u "Z"), (0, .methodref 10 28), (0, .nameAndType 5 29), (0, u "([CIILjava/lang/Void;)V"), (8, .fieldref 10 39), (0, .nameAndType 40 26), (0, u "COMPACT_STRINGS"), (1, .class_ 44), (1, u "java/lang/StringUTF16"), (0, u "compress"), (1, .methodref 42 48), (0, .nameAndType 49 50), (0, u "coderFromArrayLen"), (0, u "([BI)B"), (56, .class_ 109), (1, u "java/lang/StringLatin1"), (67, .methodref 42 178), (0, .nameAndType 45 179), (0, u "([CII)[B"), (361, .methodref 107 542), (0, .nameAndType 543 544), (0, u "equals"), (0, u "([B[B)Z"), (28, u "(Ljava/lang/Object;)Z"), (1, .class_ 576), (0, u "java/lang/CharSequence"), (22, u "CASE_INSENSITIVE_ORDER"), (0, u "Ljava/util/Comparator;"), (409, u "([C)V"), (90, u "serialPersistentFields"), (0, u "[Ljava/io/ObjectStreamField;"), (0, .class_ 1104), (0, u "java/lang/String$CaseInsensitiveComparator"), (1, .class_ 1107), (0, u "java/io/Serializable"), (0, .class_ 1109), (0, u "java/lang/Comparable"), (0, .class_ 1111), (0, u "java/lang/constant/Constable"), (0, .class_ 1113), (0, u "java/lang/constant/ConstantDesc"), (2, u "serialVersionUID"), (0, u "J"), (3, u "REPL"), (0, u "C"), (2, u "LATIN1"), (1, u "UTF16")] 323

def k10m0 : Method := { name := "<init>", desc := "()V", sig := { parameters := [], returnType := none }, accessFlags := 1, code := none }
def k10c1 : Code := { maxStack := 5, maxLocals := 2, code := jdk_42_method_3_code, exceptionTable := #[], attributes := #[] }
def k10m1 : Method := { name := "<init>", desc := "([C)V", sig := { parameters := [(.array .char)], returnType := none }, accessFlags := 1, code := some k10c1 }
def k10c2 : Code := { maxStack := 2, maxLocals := 3, code := jdk_42_method_66_code, exceptionTable := #[], attributes := #[] }
def k10m2 : Method := { name := "equals", desc := "(Ljava/lang/Object;)Z", sig := { parameters := [(.object "java/lang/Object")], returnType := some .boolean }, accessFlags := 1, code := some k10c2 }
def k10c3 : Code := { maxStack := 4, maxLocals := 6, code := jdk_42_method_149_code, exceptionTable := #[], attributes := #[] }
def k10m3 : Method := { name := "<init>", desc := "([CIILjava/lang/Void;)V", sig := { parameters := [(.array .char), .int, .int, (.object "java/lang/Void")], returnType := none }, accessFlags := 2, code := some k10c3 }
/-- java/lang/String -/
def k10 : Class := { plain "java/lang/String" (some 0) with
  accessFlags := 49
  interfaces := #[4, 3, 8, 2, 9]
  cf := some (fileOf pool10 10 #[.nestMembers #[1103]] #[{ accessFlags := 1, nameIndex := 5, descriptorIndex := 6, attributes := #[] }, { accessFlags := 1, nameIndex := 5, descriptorIndex := 1010, attributes := #[] }, { accessFlags := 1, nameIndex := 543, descriptorIndex := 573, attributes := #[] }, { accessFlags := 2, nameIndex := 5, descriptorIndex := 29, attributes := #[] }] 49 2 #[1106, 1108, 575, 1110, 1112] #[{ accessFlags := 18, nameIndex := 13, descriptorIndex := 14, attributes := #[] }, { accessFlags := 18, nameIndex := 17, descriptorIndex := 18, attributes := #[] }, { accessFlags := 2, nameIndex := 21, descriptorIndex := 22, attributes := #[] }, { accessFlags := 2, nameIndex := 25, descriptorIndex := 26, attributes := #[] }, { accessFlags := 26, nameIndex := 1116, descriptorIndex := 1117, attributes := #[] }, { accessFlags := 24, nameIndex := 40, descriptorIndex := 26, attributes := #[] }, { accessFlags := 26, nameIndex := 1101, descriptorIndex := 1102, attributes := #[] }, { accessFlags := 26, nameIndex := 1121, descriptorIndex := 1122, attributes := #[] }, { accessFlags := 25, nameIndex := 599, descriptorIndex := 600, attributes := #[] }, { accessFlags := 24, nameIndex := 1125, descriptorIndex := 18, attributes := #[] }, { accessFlags := 24, nameIndex := 1127, descriptorIndex := 18, attributes := #[] }])
  fields := #[{ name := "value", type := (.array .byte), accessFlags := 18, slot := 0, constantValue := 0 }, { name := "coder", type := .byte, accessFlags := 18, slot := 1, constantValue := 0 }, { name := "hash", type := .int, accessFlags := 2, slot := 2, constantValue := 0 }, { name := "hashIsZero", type := .boolean, accessFlags := 2, slot := 3, constantValue := 0 }, { name := "serialVersionUID", type := .long, accessFlags := 26, slot := 0, constantValue := 0 }, { name := "COMPACT_STRINGS", type := .boolean, accessFlags := 24, slot := 1, constantValue := 0 }, { name := "serialPersistentFields", type := (.array (.object "java/io/ObjectStreamField")), accessFlags := 26, slot := 2, constantValue := 0 }, { name := "REPL", type := .char, accessFlags := 26, slot := 3, constantValue := 0 }, { name := "CASE_INSENSITIVE_ORDER", type := (.object "java/util/Comparator"), accessFlags := 25, slot := 4, constantValue := 0 }, { name := "LATIN1", type := .byte, accessFlags := 24, slot := 5, constantValue := 0 }, { name := "UTF16", type := .byte, accessFlags := 24, slot := 6, constantValue := 0 }]
  methods := #[k10m0, k10m1, k10m2, k10m3]
  instanceTypes := #[(.array .byte), .byte, .int, .boolean]
  staticTypes := #[.long, .boolean, (.array (.object "java/io/ObjectStreamField")), .char, (.object "java/util/Comparator"), .byte, .byte]
  resolved := Array.replicate 1451 none
  statics := some 1 }

def pool11 : Array CpInfo := pool [(4, .class_ 6), (1, u "java/lang/Object"), (0, u "<init>"), (0, u "()V"), (5, .class_ 16), (1, u "java/lang/StringLatin1"), (104, u "$assertionsDisabled"), (0, u "Z"), (98, .class_ 223), (1, u "java/lang/StringLatin1$LinesSpliterator"), (57, u "equals"), (0, u "([B[B)Z"), (107, .class_ 391), (0, u "java/lang/StringLatin1$CharsSpliterator")] 3

def k11m0 : Method := { name := "<init>", desc := "()V", sig := { parameters := [], returnType := none }, accessFlags := 0, code := none }
def k11c1 : Code := { maxStack := 3, maxLocals := 3, code := jdk_43_method_13_code, exceptionTable := #[], attributes := #[] }
def k11m1 : Method := { name := "equals", desc := "([B[B)Z", sig := { parameters := [(.array .byte), (.array .byte)], returnType := some .boolean }, accessFlags := 9, code := some k11c1 }
/-- java/lang/StringLatin1 -/
def k11 : Class := { plain "java/lang/StringLatin1" (some 0) with
  accessFlags := 48
  interfaces := #[]
  cf := some (fileOf pool11 14 #[.nestMembers #[390, 221]] #[{ accessFlags := 0, nameIndex := 7, descriptorIndex := 8, attributes := #[] }, { accessFlags := 9, nameIndex := 281, descriptorIndex := 282, attributes := #[] }] 48 4 #[] #[{ accessFlags := 4120, nameIndex := 121, descriptorIndex := 122, attributes := #[] }])
  fields := #[{ name := "$assertionsDisabled", type := .boolean, accessFlags := 4120, slot := 0, constantValue := 0 }]
  methods := #[k11m0, k11m1]
  instanceTypes := #[]
  staticTypes := #[.boolean]
  resolved := Array.replicate 395 none
  statics := none }

def pool12 : Array CpInfo := pool [(6, .class_ 8), (1, u "java/lang/Object"), (0, u "<init>"), (0, u "()V"), (1, .class_ 14), (1, u "java/lang/StringUTF16"), (31, u "$assertionsDisabled"), (0, u "Z"), (13, u "HI_BYTE_SHIFT"), (0, u "I"), (2, u "LO_BYTE_SHIFT"), (49, .methodref 12 116), (0, .nameAndType 117 118), (0, u "compress"), (0, u "([CI[BII)I"), (3, u "([CII)[B"), (138, u "coderFromArrayLen"), (0, u "([BI)B"), (106, .class_ 371), (1, u "java/lang/StringUTF16$LinesSpliterator"), (58, u "MAX_LENGTH"), (196, .class_ 628), (0, u "java/lang/StringUTF16$CodePointsSpliterator"), (0, .class_ 630), (0, u "java/lang/StringUTF16$CharsSpliterator")] 4

def k12m0 : Method := { name := "<init>", desc := "()V", sig := { parameters := [], returnType := none }, accessFlags := 0, code := none }
def k12c1 : Code := { maxStack := 2, maxLocals := 2, code := jdk_52_method_15_code, exceptionTable := #[], attributes := #[] }
def k12m1 : Method := { name := "coderFromArrayLen", desc := "([BI)B", sig := { parameters := [(.array .byte), .int], returnType := some .byte }, accessFlags := 8, code := some k12c1 }
def k12c2 : Code := { maxStack := 5, maxLocals := 6, code := jdk_52_method_16_code, exceptionTable := #[], attributes := #[] }
def k12m2 : Method := { name := "compress", desc := "([CII)[B", sig := { parameters := [(.array .char), .int, .int], returnType := some (.array .byte) }, accessFlags := 9, code := some k12c2 }
def k12c3 : Code := { maxStack := 3, maxLocals := 7, code := jdk_52_method_21_code, exceptionTable := #[], attributes := #[] }
def k12m3 : Method := { name := "compress", desc := "([CI[BII)I", sig := { parameters := [(.array .char), .int, (.array .byte), .int, .int], returnType := some .int }, accessFlags := 9, code := some k12c3 }
/-- java/lang/StringUTF16 -/
def k12 : Class := { plain "java/lang/StringUTF16" (some 0) with
  accessFlags := 48
  interfaces := #[]
  cf := some (fileOf pool12 12 #[.nestMembers #[627, 629, 369]] #[{ accessFlags := 0, nameIndex := 9, descriptorIndex := 10, attributes := #[] }, { accessFlags := 8, nameIndex := 261, descriptorIndex := 262, attributes := #[] }, { accessFlags := 9, nameIndex := 117, descriptorIndex := 122, attributes := #[] }, { accessFlags := 9, nameIndex := 117, descriptorIndex := 118, attributes := #[] }] 48 6 #[] #[{ accessFlags := 26, nameIndex := 61, descriptorIndex := 62, attributes := #[] }, { accessFlags := 26, nameIndex := 65, descriptorIndex := 62, attributes := #[] }, { accessFlags := 24, nameIndex := 430, descriptorIndex := 62, attributes := #[] }, { accessFlags := 4120, nameIndex := 46, descriptorIndex := 47, attributes := #[] }])
  fields := #[{ name := "HI_BYTE_SHIFT", type := .int, accessFlags := 26, slot := 0, constantValue := 0 }, { name := "LO_BYTE_SHIFT", type := .int, accessFlags := 26, slot := 1, constantValue := 0 }, { name := "MAX_LENGTH", type := .int, accessFlags := 24, slot := 2, constantValue := 0 }, { name := "$assertionsDisabled", type := .boolean, accessFlags := 4120, slot := 3, constantValue := 0 }]
  methods := #[k12m0, k12m1, k12m2, k12m3]
  instanceTypes := #[]
  staticTypes := #[.int, .int, .int, .boolean]
  resolved := Array.replicate 635 none
  statics := none }

def pool13 : Array CpInfo := pool [(2, .class_ 4), (1, u "java/lang/Object"), (0, u "<init>"), (0, u "()V"), (17, .class_ 26), (1, u "jdk/internal/util/Preconditions"), (28, .class_ 56), (0, u "jdk/internal/util/Preconditions$4"), (57, .class_ 115), (0, u "jdk/internal/util/Preconditions$1"), (7, u "SIOOBE_FORMATTER"), (0, u "Ljava/util/function/BiFunction;"), (0, .class_ 126), (0, u "jdk/internal/util/Preconditions$2"), (3, u "AIOOBE_FORMATTER"), (0, .class_ 132), (0, u "jdk/internal/util/Preconditions$3"), (3, u "IOOBE_FORMATTER")] 57

def k13m0 : Method := { name := "<init>", desc := "()V", sig := { parameters := [], returnType := none }, accessFlags := 1, code := none }
/-- jdk/internal/util/Preconditions -/
def k13 : Class := { plain "jdk/internal/util/Preconditions" (some 0) with
  accessFlags := 33
  interfaces := #[]
  cf := some (fileOf pool13 24 #[.nestMembers #[55, 131, 125, 114]] #[{ accessFlags := 1, nameIndex := 5, descriptorIndex := 6, attributes := #[] }] 33 2 #[] #[{ accessFlags := 25, nameIndex := 123, descriptorIndex := 124, attributes := #[] }, { accessFlags := 25, nameIndex := 130, descriptorIndex := 124, attributes := #[] }, { accessFlags := 25, nameIndex := 136, descriptorIndex := 124, attributes := #[] }])
  fields := #[{ name := "SIOOBE_FORMATTER", type := (.object "java/util/function/BiFunction"), accessFlags := 25, slot := 0, constantValue := 0 }, { name := "AIOOBE_FORMATTER", type := (.object "java/util/function/BiFunction"), accessFlags := 25, slot := 1, constantValue := 0 }, { name := "IOOBE_FORMATTER", type := (.object "java/util/function/BiFunction"), accessFlags := 25, slot := 2, constantValue := 0 }]
  methods := #[k13m0]
  instanceTypes := #[]
  staticTypes := #[(.object "java/util/function/BiFunction"), (.object "java/util/function/BiFunction"), (.object "java/util/function/BiFunction")]
  resolved := Array.replicate 194 none
  statics := some 2 }

def pool14 : Array CpInfo := pool [(9, u "<init>"), (6, .class_ 18), (1, u "java/lang/Object"), (0, u "()V"), (1, .class_ 23), (1, u "jdk/internal/util/ArraysSupport"), (0, u "LOG2_ARRAY_LONG_INDEX_SCALE"), (0, u "I"), (2, u "U"), (0, u "Ljdk/internal/misc/Unsafe;"), (8, u "BIG_ENDIAN"), (0, u "Z"), (8, u "LOG2_BYTE_BIT_SIZE"), (4, u "LOG2_ARRAY_INT_INDEX_SCALE"), (54, u "JLA"), (0, u "Ljdk/internal/access/JavaLangAccess;"), (11, u "LOG2_ARRAY_BOOLEAN_INDEX_SCALE"), (9, u "LOG2_ARRAY_BYTE_INDEX_SCALE"), (5, u "LOG2_ARRAY_CHAR_INDEX_SCALE"), (5, u "LOG2_ARRAY_SHORT_INDEX_SCALE"), (18, u "LOG2_ARRAY_FLOAT_INDEX_SCALE"), (24, u "LOG2_ARRAY_DOUBLE_INDEX_SCALE"), (89, u "T_BOOLEAN"), (2, u "T_CHAR"), (1, u "T_FLOAT"), (1, u "T_DOUBLE"), (1, u "T_BYTE"), (1, u "T_SHORT"), (1, u "T_INT"), (1, u "T_LONG"), (1, u "SOFT_MAX_ARRAY_LENGTH")] 83

def k14m0 : Method := { name := "<init>", desc := "()V", sig := { parameters := [], returnType := none }, accessFlags := 2, code := none }
/-- jdk/internal/util/ArraysSupport -/
def k14 : Class := { plain "jdk/internal/util/ArraysSupport" (some 0) with
  accessFlags := 33
  interfaces := #[]
  cf := some (fileOf pool14 21 #[] #[{ accessFlags := 2, nameIndex := 9, descriptorIndex := 19, attributes := #[] }] 33 16 #[] #[{ accessFlags := 24, nameIndex := 28, descriptorIndex := 29, attributes := #[] }, { accessFlags := 26, nameIndex := 38, descriptorIndex := 39, attributes := #[] }, { accessFlags := 25, nameIndex := 121, descriptorIndex := 25, attributes := #[] }, { accessFlags := 25, nameIndex := 131, descriptorIndex := 25, attributes := #[] }, { accessFlags := 25, nameIndex := 137, descriptorIndex := 25, attributes := #[] }, { accessFlags := 25, nameIndex := 143, descriptorIndex := 25, attributes := #[] }, { accessFlags := 25, nameIndex := 53, descriptorIndex := 25, attributes := #[] }, { accessFlags := 25, nameIndex := 24, descriptorIndex := 25, attributes := #[] }, { accessFlags := 25, nameIndex := 162, descriptorIndex := 25, attributes := #[] }, { accessFlags := 25, nameIndex := 187, descriptorIndex := 25, attributes := #[] }, { accessFlags := 26, nameIndex := 48, descriptorIndex := 25, attributes := #[] }, { accessFlags := 25, nameIndex := 277, descriptorIndex := 25, attributes := #[] }, { accessFlags := 25, nameIndex := 280, descriptorIndex := 25, attributes := #[] }, { accessFlags := 25, nameIndex := 282, descriptorIndex := 25, attributes := #[] }, { accessFlags := 25, nameIndex := 284, descriptorIndex := 25, attributes := #[] }, { accessFlags := 25, nameIndex := 286, descriptorIndex := 25, attributes := #[] }, { accessFlags := 25, nameIndex := 288, descriptorIndex := 25, attributes := #[] }, { accessFlags := 25, nameIndex := 290, descriptorIndex := 25, attributes := #[] }, { accessFlags := 25, nameIndex := 292, descriptorIndex := 25, attributes := #[] }, { accessFlags := 26, nameIndex := 108, descriptorIndex := 109, attributes := #[] }, { accessFlags := 25, nameIndex := 294, descriptorIndex := 25, attributes := #[] }])
  fields := #[{ name := "U", type := (.object "jdk/internal/misc/Unsafe"), accessFlags := 24, slot := 0, constantValue := 0 }, { name := "BIG_ENDIAN", type := .boolean, accessFlags := 26, slot := 1, constantValue := 0 }, { name := "LOG2_ARRAY_BOOLEAN_INDEX_SCALE", type := .int, accessFlags := 25, slot := 2, constantValue := 0 }, { name := "LOG2_ARRAY_BYTE_INDEX_SCALE", type := .int, accessFlags := 25, slot := 3, constantValue := 0 }, { name := "LOG2_ARRAY_CHAR_INDEX_SCALE", type := .int, accessFlags := 25, slot := 4, constantValue := 0 }, { name := "LOG2_ARRAY_SHORT_INDEX_SCALE", type := .int, accessFlags := 25, slot := 5, constantValue := 0 }, { name := "LOG2_ARRAY_INT_INDEX_SCALE", type := .int, accessFlags := 25, slot := 6, constantValue := 0 }, { name := "LOG2_ARRAY_LONG_INDEX_SCALE", type := .int, accessFlags := 25, slot := 7, constantValue := 0 }, { name := "LOG2_ARRAY_FLOAT_INDEX_SCALE", type := .int, accessFlags := 25, slot := 8, constantValue := 0 }, { name := "LOG2_ARRAY_DOUBLE_INDEX_SCALE", type := .int, accessFlags := 25, slot := 9, constantValue := 0 }, { name := "LOG2_BYTE_BIT_SIZE", type := .int, accessFlags := 26, slot := 10, constantValue := 0 }, { name := "T_BOOLEAN", type := .int, accessFlags := 25, slot := 11, constantValue := 0 }, { name := "T_CHAR", type := .int, accessFlags := 25, slot := 12, constantValue := 0 }, { name := "T_FLOAT", type := .int, accessFlags := 25, slot := 13, constantValue := 0 }, { name := "T_DOUBLE", type := .int, accessFlags := 25, slot := 14, constantValue := 0 }, { name := "T_BYTE", type := .int, accessFlags := 25, slot := 15, constantValue := 0 }, { name := "T_SHORT", type := .int, accessFlags := 25, slot := 16, constantValue := 0 }, { name := "T_INT", type := .int, accessFlags := 25, slot := 17, constantValue := 0 }, { name := "T_LONG", type := .int, accessFlags := 25, slot := 18, constantValue := 0 }, { name := "JLA", type := (.object "jdk/internal/access/JavaLangAccess"), accessFlags := 26, slot := 19, constantValue := 0 }, { name := "SOFT_MAX_ARRAY_LENGTH", type := .int, accessFlags := 25, slot := 20, constantValue := 0 }]
  methods := #[k14m0]
  instanceTypes := #[]
  staticTypes := #[(.object "jdk/internal/misc/Unsafe"), .boolean, .int, .int, .int, .int, .int, .int, .int, .int, .int, .int, .int, .int, .int, .int, .int, .int, .int, (.object "jdk/internal/access/JavaLangAccess"), .int]
  resolved := Array.replicate 378 none
  statics := none }

/-- the primitive byte -/
def k15 : Class := { plain "byte" none with kind := .primitive 'B', accessFlags := 0x411 }
/-- [B -/
def k16 : Class := { plain "[B" (some 0) with kind := .array 15 .byte, interfaces := #[7, 4], accessFlags := 1041 }

/-- the primitive char -/
def k17 : Class := { plain "char" none with kind := .primitive 'C', accessFlags := 0x411 }
/-- [C -/
def k18 : Class := { plain "[C" (some 0) with kind := .array 17 .char, interfaces := #[7, 4], accessFlags := 1041 }

/-- the primitive int -/
def k19 : Class := { plain "int" none with kind := .primitive 'I', accessFlags := 0x411 }
/-- [I -/
def k20 : Class := { plain "[I" (some 0) with kind := .array 19 .int, interfaces := #[7, 4], accessFlags := 1041 }

/-- [Lcom/example/gridclear/gridclear/image/ImageView$Side; -/
def k21 : Class := { plain "[Lcom/example/gridclear/gridclear/image/ImageView$Side;" (some 0) with kind := .array 6 (.object "com/example/gridclear/gridclear/image/ImageView$Side"), interfaces := #[7, 4], accessFlags := 1041 }

/-- [Ljava/lang/String; -/
def k22 : Class := { plain "[Ljava/lang/String;" (some 0) with kind := .array 10 (.object "java/lang/String"), interfaces := #[7, 4], accessFlags := 1041 }

def heap : Heap := #[{ cls := 6, slots := #[.ref 4, .ref 5, .ref 6, .ref 3], vm := .statics 6 },
  { cls := 10, slots := #[.long 0, .int 1, .null, .int 0, .null, .int 0, .int 0], vm := .statics 10 },
  { cls := 13, slots := #[.null, .null, .null], vm := .statics 13 },
  { cls := 21, slots := #[.ref 4, .ref 5, .ref 6], vm := .none },
  { cls := 6, slots := #[.null, .int 0, .int 0, .ref 7, .null], vm := .none },
  { cls := 6, slots := #[.null, .int 1, .int 0, .ref 8, .null], vm := .none },
  { cls := 6, slots := #[.null, .int 2, .int 0, .ref 9, .null], vm := .none },
  { cls := 10, slots := #[.ref 10, .int 0, .int 0, .int 0], vm := .none },
  { cls := 10, slots := #[.ref 11, .int 0, .int 0, .int 0], vm := .none },
  { cls := 10, slots := #[.ref 12, .int 0, .int 0, .int 0], vm := .none },
  { cls := 16, slots := #[.int 70, .int 114, .int 111, .int 110, .int 116, .int 32, .int 66, .int 87], vm := .none },
  { cls := 16, slots := #[.int 66, .int 97, .int 99, .int 107, .int 32, .int 66, .int 87], vm := .none },
  { cls := 16, slots := #[.int 70, .int 114, .int 111, .int 110, .int 116, .int 32, .int 71, .int 114, .int 97, .int 121], vm := .none }]
def classes : Array Class := #[k0, k1, k2, k3, k4, k5, k6, k7, k8, k9, k10, k11, k12, k13, k14, k15, k16, k17, k18, k19, k20, k21, k22]
def interned : List (Array UInt16 × Addr) := []
def slotsUsed : Nat := 69
def theMethod : MethodId := ⟨1, 2⟩
def args0 : Array Value := #[.int 5, .int 7]
def aboutOver (below : List Frame) : State where
  vm := { classes := classes, interned := interned.toArray }
  heap := heap
  slotsUsed := slotsUsed
  threads := #[{ frames := .invoking theMethod args0 :: below }]
def below0 : List Frame := [.native { method := ⟨0, 0⟩, args := #[] }]
def about1 : State := aboutOver below0
def p0 : Program := .bare "" "" ""
def e0 : Env := launch0.env 0 0 0
theorem w_frames : about1.frames = Frame.invoking theMethod args0 :: below0 := rfl
set_option maxRecDepth 65536 in
theorem w_args : argsFit about1.vm theMethod args0 = true := by decide +kernel
set_option maxRecDepth 65536 in
theorem w_heap : heapFits about1 = true := by decide +kernel
set_option maxRecDepth 65536 in
theorem w_runnable : about1.curStatus? = some .runnable := by decide +kernel
set_option maxRecDepth 65536 in
theorem w_alone : about1.alone = true := by decide +kernel
set_option maxRecDepth 65536 in
theorem w_named : about1.methodNamed? x = some theMethod := by decide +kernel
set_option maxRecDepth 65536 in
theorem w_hears : about1.hears theMethod below0 = true := by decide +kernel
set_option maxRecDepth 65536 in
theorem w_ripe : about1.ripe theMethod args0 below0 = true := by decide +kernel
theorem w_running : about1.status = .running := rfl
set_option maxRecDepth 65536 in
theorem w_room : about1.hasRoom e0.platform room_1 = true :=
  launch0.hasRoom_least _ room_1 (by decide +kernel) (by decide +kernel) (by decide +kernel) (by decide +kernel) (by decide +kernel) (by decide +kernel)
theorem allAtoms_all (ts : List Jvm.Cond) (a : Array Jvm.Value) (st : Jvm.State) : (allAtoms ts).before a st = ts.all (fun c => c.before a st) := by
  induction ts with
  | nil => rfl
  | cons c t ih =>
    show (Jvm.Cond.and c (allAtoms t)).before a st = _
    rw [Jvm.Cond.before_and, ih, List.all_cons]
def words1 : List Jvm.Cond := Jvm.Cond.code x code maxLocals ret :: tables_1
/-- a 'code' word, met by the world's own term for the bytes: nothing is compared byte by byte -/
theorem code_word {y : MethodName} {bytes : ByteArray} {mx : Nat} {rt : Option FieldType} {a : Array Value} {s : State} {m : MethodId} {meth : Method} {c : Code} (h1 : s.methodNamed? y = some m) (h2 : s.vm.method? m = some meth) (h3 : meth.code = some c) (h4 : c.code = bytes)
    (h5 : (c.maxLocals == mx && c.exceptionTable.isEmpty && decide (c.maxStack ≤ mostOperands) && decide (meth.sig.returnType = rt) && !meth.locks && decide (parseMethodDescriptor y.desc = some meth.sig)) = true) : (Jvm.Cond.code y bytes mx rt).before a s = true := by
  simp only [Bool.and_eq_true, beq_iff_eq, Bool.not_eq_true', decide_eq_true_eq] at h5
  obtain ⟨⟨⟨⟨⟨g1, g2⟩, g3⟩, g4⟩, g5⟩, g6⟩ := h5
  simp [Cond.before, Cond.holds, Cond.value, h1, h2, h3, h4, g1, g2, g3, g4, g5, g6]
def isCode : Jvm.Cond → Bool
  | .code _ _ _ _ => true
  | _ => false
theorem all_split {L : List Jvm.Cond} {P : Jvm.Cond → Bool} (h1 : L.all (fun c => isCode c || P c) = true) (h2 : ∀ c ∈ L.filter isCode, P c = true) : L.all P = true := by
  refine List.all_eq_true.mpr fun c hc => ?_
  have h := List.all_eq_true.mp h1 c hc
  rcases Bool.eq_false_or_eq_true (isCode c) with hi | hi
  · exact h2 c (List.mem_filter.mpr ⟨hc, hi⟩)
  · simpa [hi] using h
set_option maxRecDepth 65536 in
theorem w_c0 : (Jvm.Cond.code x code maxLocals ret).before args0 about1 = true := code_word (m := ⟨1, 2⟩) (meth := k1m2) (c := k1c2) (by decide +kernel) rfl rfl rfl (by decide +kernel)
set_option maxRecDepth 65536 in
theorem w_c1 : (Jvm.Cond.code ({ cls := "com/example/gridclear/gridclear/image/ImageView$Side", name := "indicators", desc := "()[Ljava/lang/String;" } : Jvm.MethodName) prog_73_method_6_code (3 : Nat) (Option.some (Jvm.ClassFile.FieldType.array (Jvm.ClassFile.FieldType.object "java/lang/String")))).before args0 about1 = true := code_word (m := ⟨6, 2⟩) (meth := k6m2) (c := k6c2) (by decide +kernel) rfl rfl rfl (by decide +kernel)
set_option maxRecDepth 65536 in
theorem w_c2 : (Jvm.Cond.code ({ cls := "com/example/gridclear/gridclear/image/ImageView$Side", name := "values", desc := "()[Lcom/example/gridclear/gridclear/image/ImageView$Side;" } : Jvm.MethodName) prog_73_method_1_code (0 : Nat) (Option.some (Jvm.ClassFile.FieldType.array (Jvm.ClassFile.FieldType.object "com/example/gridclear/gridclear/image/ImageView$Side")))).before args0 about1 = true := code_word (m := ⟨6, 0⟩) (meth := k6m0) (c := k6c0) (by decide +kernel) rfl rfl rfl (by decide +kernel)
set_option maxRecDepth 65536 in
theorem w_c3 : (Jvm.Cond.code ({ cls := "com/example/gridclear/gridclear/image/SideIndicatorsPinLaw", name := "exact", desc := "([Ljava/lang/String;)Z" } : Jvm.MethodName) method_2_code (1 : Nat) (Option.some Jvm.ClassFile.FieldType.boolean)).before args0 about1 = true := code_word (m := ⟨1, 1⟩) (meth := k1m1) (c := k1c1) (by decide +kernel) rfl rfl rfl (by decide +kernel)
set_option maxRecDepth 65536 in
theorem w_c4 : (Jvm.Cond.code ({ cls := "java/lang/String", name := "equals", desc := "(Ljava/lang/Object;)Z" } : Jvm.MethodName) jdk_42_method_66_code (3 : Nat) (Option.some Jvm.ClassFile.FieldType.boolean)).before args0 about1 = true := code_word (m := ⟨10, 2⟩) (meth := k10m2) (c := k10c2) (by decide +kernel) rfl rfl rfl (by decide +kernel)
set_option maxRecDepth 65536 in
theorem w_c5 : (Jvm.Cond.code ({ cls := "java/lang/StringLatin1", name := "equals", desc := "([B[B)Z" } : Jvm.MethodName) jdk_43_method_13_code (3 : Nat) (Option.some Jvm.ClassFile.FieldType.boolean)).before args0 about1 = true := code_word (m := ⟨11, 1⟩) (meth := k11m1) (c := k11c1) (by decide +kernel) rfl rfl rfl (by decide +kernel)
set_option maxRecDepth 65536 in
theorem w_c6 : (Jvm.Cond.code ({ cls := "com/example/gridclear/gridclear/image/ImageView$Side", name := "indicator", desc := "()Ljava/lang/String;" } : Jvm.MethodName) prog_73_method_4_code (1 : Nat) (Option.some (Jvm.ClassFile.FieldType.object "java/lang/String"))).before args0 about1 = true := code_word (m := ⟨6, 1⟩) (meth := k6m1) (c := k6c1) (by decide +kernel) rfl rfl rfl (by decide +kernel)
set_option maxRecDepth 65536 in
theorem w_c7 : (Jvm.Cond.code ({ cls := "com/example/gridclear/gridclear/image/ImageView$Side", name := "of", desc := "(Ljava/lang/String;)Lcom/example/gridclear/gridclear/image/ImageView$Side;" } : Jvm.MethodName) prog_73_method_7_code (5 : Nat) (Option.some (Jvm.ClassFile.FieldType.object "com/example/gridclear/gridclear/image/ImageView$Side"))).before args0 about1 = true := code_word (m := ⟨6, 3⟩) (meth := k6m3) (c := k6c3) (by decide +kernel) rfl rfl rfl (by decide +kernel)
set_option maxRecDepth 65536 in
theorem w_c8 : (Jvm.Cond.code ({ cls := "java/lang/String", name := "<init>", desc := "([C)V" } : Jvm.MethodName) jdk_42_method_3_code (2 : Nat) (Option.none : Option Jvm.ClassFile.FieldType)).before args0 about1 = true := code_word (m := ⟨10, 1⟩) (meth := k10m1) (c := k10c1) (by decide +kernel) rfl rfl rfl (by decide +kernel)
set_option maxRecDepth 65536 in
theorem w_c9 : (Jvm.Cond.code ({ cls := "java/lang/String", name := "<init>", desc := "([CIILjava/lang/Void;)V" } : Jvm.MethodName) jdk_42_method_149_code (6 : Nat) (Option.none : Option Jvm.ClassFile.FieldType)).before args0 about1 = true := code_word (m := ⟨10, 3⟩) (meth := k10m3) (c := k10c3) (by decide +kernel) rfl rfl rfl (by decide +kernel)
set_option maxRecDepth 65536 in
theorem w_c10 : (Jvm.Cond.code ({ cls := "java/lang/Object", name := "<init>", desc := "()V" } : Jvm.MethodName) object_method_1_code (1 : Nat) (Option.none : Option Jvm.ClassFile.FieldType)).before args0 about1 = true := code_word (m := ⟨0, 0⟩) (meth := k0m0) (c := k0c0) (by decide +kernel) rfl rfl rfl (by decide +kernel)
set_option maxRecDepth 65536 in
theorem w_c11 : (Jvm.Cond.code ({ cls := "java/lang/StringUTF16", name := "compress", desc := "([CII)[B" } : Jvm.MethodName) jdk_52_method_16_code (6 : Nat) (Option.some (Jvm.ClassFile.FieldType.array Jvm.ClassFile.FieldType.byte))).before args0 about1 = true := code_word (m := ⟨12, 2⟩) (meth := k12m2) (c := k12c2) (by decide +kernel) rfl rfl rfl (by decide +kernel)
set_option maxRecDepth 65536 in
theorem w_c12 : (Jvm.Cond.code ({ cls := "java/lang/StringUTF16", name := "compress", desc := "([CI[BII)I" } : Jvm.MethodName) jdk_52_method_21_code (7 : Nat) (Option.some Jvm.ClassFile.FieldType.int)).before args0 about1 = true := code_word (m := ⟨12, 3⟩) (meth := k12m3) (c := k12c3) (by decide +kernel) rfl rfl rfl (by decide +kernel)
set_option maxRecDepth 65536 in
theorem w_c13 : (Jvm.Cond.code ({ cls := "java/lang/StringUTF16", name := "coderFromArrayLen", desc := "([BI)B" } : Jvm.MethodName) jdk_52_method_15_code (2 : Nat) (Option.some Jvm.ClassFile.FieldType.byte)).before args0 about1 = true := code_word (m := ⟨12, 1⟩) (meth := k12m1) (c := k12c1) (by decide +kernel) rfl rfl rfl (by decide +kernel)
def codes1 : List Jvm.Cond := [Jvm.Cond.code x code maxLocals ret, Jvm.Cond.code ({ cls := "com/example/gridclear/gridclear/image/ImageView$Side", name := "indicators", desc := "()[Ljava/lang/String;" } : Jvm.MethodName) prog_73_method_6_code (3 : Nat) (Option.some (Jvm.ClassFile.FieldType.array (Jvm.ClassFile.FieldType.object "java/lang/String"))), Jvm.Cond.code ({ cls := "com/example/gridclear/gridclear/image/ImageView$Side", name := "values", desc := "()[Lcom/example/gridclear/gridclear/image/ImageView$Side;" } : Jvm.MethodName) prog_73_method_1_code (0 : Nat) (Option.some (Jvm.ClassFile.FieldType.array (Jvm.ClassFile.FieldType.object "com/example/gridclear/gridclear/image/ImageView$Side"))), Jvm.Cond.code ({ cls := "com/example/gridclear/gridclear/image/SideIndicatorsPinLaw", name := "exact", desc := "([Ljava/lang/String;)Z" } : Jvm.MethodName) method_2_code (1 : Nat) (Option.some Jvm.ClassFile.FieldType.boolean), Jvm.Cond.code ({ cls := "java/lang/String", name := "equals", desc := "(Ljava/lang/Object;)Z" } : Jvm.MethodName) jdk_42_method_66_code (3 : Nat) (Option.some Jvm.ClassFile.FieldType.boolean), Jvm.Cond.code ({ cls := "java/lang/StringLatin1", name := "equals", desc := "([B[B)Z" } : Jvm.MethodName) jdk_43_method_13_code (3 : Nat) (Option.some Jvm.ClassFile.FieldType.boolean), Jvm.Cond.code ({ cls := "com/example/gridclear/gridclear/image/ImageView$Side", name := "indicator", desc := "()Ljava/lang/String;" } : Jvm.MethodName) prog_73_method_4_code (1 : Nat) (Option.some (Jvm.ClassFile.FieldType.object "java/lang/String")), Jvm.Cond.code ({ cls := "com/example/gridclear/gridclear/image/ImageView$Side", name := "of", desc := "(Ljava/lang/String;)Lcom/example/gridclear/gridclear/image/ImageView$Side;" } : Jvm.MethodName) prog_73_method_7_code (5 : Nat) (Option.some (Jvm.ClassFile.FieldType.object "com/example/gridclear/gridclear/image/ImageView$Side")), Jvm.Cond.code ({ cls := "java/lang/String", name := "<init>", desc := "([C)V" } : Jvm.MethodName) jdk_42_method_3_code (2 : Nat) (Option.none : Option Jvm.ClassFile.FieldType), Jvm.Cond.code ({ cls := "java/lang/String", name := "<init>", desc := "([CIILjava/lang/Void;)V" } : Jvm.MethodName) jdk_42_method_149_code (6 : Nat) (Option.none : Option Jvm.ClassFile.FieldType), Jvm.Cond.code ({ cls := "java/lang/Object", name := "<init>", desc := "()V" } : Jvm.MethodName) object_method_1_code (1 : Nat) (Option.none : Option Jvm.ClassFile.FieldType), Jvm.Cond.code ({ cls := "java/lang/StringUTF16", name := "compress", desc := "([CII)[B" } : Jvm.MethodName) jdk_52_method_16_code (6 : Nat) (Option.some (Jvm.ClassFile.FieldType.array Jvm.ClassFile.FieldType.byte)), Jvm.Cond.code ({ cls := "java/lang/StringUTF16", name := "compress", desc := "([CI[BII)I" } : Jvm.MethodName) jdk_52_method_21_code (7 : Nat) (Option.some Jvm.ClassFile.FieldType.int), Jvm.Cond.code ({ cls := "java/lang/StringUTF16", name := "coderFromArrayLen", desc := "([BI)B" } : Jvm.MethodName) jdk_52_method_15_code (2 : Nat) (Option.some Jvm.ClassFile.FieldType.byte)]
set_option maxRecDepth 65536 in
theorem codes_eq : words1.filter isCode = codes1 := rfl
theorem w_codes : ∀ c ∈ words1.filter isCode, c.before args0 about1 = true := by
  rw [codes_eq]
  intro c hc
  simp only [codes1, List.mem_cons, List.not_mem_nil, or_false] at hc
  rcases hc with rfl | rfl | rfl | rfl | rfl | rfl | rfl | rfl | rfl | rfl | rfl | rfl | rfl | rfl
  · exact w_c0
  · exact w_c1
  · exact w_c2
  · exact w_c3
  · exact w_c4
  · exact w_c5
  · exact w_c6
  · exact w_c7
  · exact w_c8
  · exact w_c9
  · exact w_c10
  · exact w_c11
  · exact w_c12
  · exact w_c13
set_option maxRecDepth 65536 in
theorem w_t1 : (words1.take 24).all (fun c => isCode c || c.before args0 about1) = true := by decide +kernel
set_option maxRecDepth 65536 in
theorem w_t2 : ((words1.drop 24).take 24).all (fun c => isCode c || c.before args0 about1) = true := by decide +kernel
set_option maxRecDepth 65536 in
theorem w_t3 : (((words1.drop 24).drop 24).take 24).all (fun c => isCode c || c.before args0 about1) = true := by decide +kernel
set_option maxRecDepth 65536 in
theorem w_t4 : (((words1.drop 24).drop 24).drop 24).all (fun c => isCode c || c.before args0 about1) = true := by decide +kernel
theorem w_tables : (allAtoms (Jvm.Cond.code x code maxLocals ret :: tables_1)).before args0 about1 = true := by
  rw [allAtoms_all]
  show words1.all (fun c => c.before args0 about1) = true
  refine all_split ?_ w_codes
  rw [← List.take_append_drop 24 words1, List.all_append, w_t1, ← List.take_append_drop 24 (words1.drop 24), List.all_append, w_t2, ← List.take_append_drop 24 ((words1.drop 24).drop 24), List.all_append, w_t3, w_t4]
  rfl
set_option maxRecDepth 65536 in
theorem w_rest : rest_1_c.before args0 about1 = true := by decide +kernel
set_option maxRecDepth 65536 in
theorem w_case : (Jvm.Cond.and given_1 narrow_1).before args0 about1 = true := by decide +kernel
set_option maxRecDepth 65536 in
theorem w_consts : constsHeld consts_1 about1 := Jvm.Lit.constsHeldB_iff.mp (by decide +kernel)
theorem w_applies : (headSpec (Jvm.Cond.code x code maxLocals ret :: tables_1) room_1).applies x e0.platform about1 = true :=
  (Spec.applies_iff w_frames).mpr ⟨w_running, w_runnable, w_alone, w_named, w_hears, w_ripe, w_room, w_tables⟩
theorem atStart : AtStart classFile x code maxLocals ret World_1 tables_1 room_1 Calls_1 rest_1 Pre_1 launch0 p0 e0 about1 theMethod args0 below0 :=
  ⟨lists_1, trivial, launch0.admits_env _ _ _, launch0.least_env, fairChoices_fair.cas, fairChoices_fair.clock, w_frames, w_args, w_heap, w_applies, ⟨w_consts, trivial⟩, w_rest, w_case⟩
end start1
theorem witness_1 : WitnessClaimed_1 := ⟨start1.p0, start1.e0, start1.about1, start1.theMethod, start1.args0, start1.below0, start1.atStart⟩
end Jvm.Pilot.@@N@@
