import JvmDerived
import JvmDerived.Pilot.@@N@@Statement
import JvmDerived.Pilot.@@N@@Code
set_option linter.unusedVariables false
set_option linter.unusedSimpArgs false
namespace Jvm.RoadKit
open Sem ClassFile Op Lib Jvm.Stand Jvm.Free Jvm.LawKit
section Own
variable {p : Program} {l : Launch} {e : Env} {R : Room} {s : State} {m : MethodId} {args : Array Value} {below : List Frame} {meth : Method} {c : Code} {T : State} {locs : List Loc} {cells slots : Nat} {Q : Option Value → Heap → List Loc → Prop} {k n : Nat} {A B : State} {h : Heap}
/-- from the state A the run comes to its end, with what Q says -/
def Goes (p : Program) (e : Env) (below : List Frame) (s : State) (Q : Option Value → Heap → List Loc → Prop) (k n : Nat) (A : State) : Prop :=
  ∃ s₂ o, Steps p.tables e below A s₂ ∧ s₂.status = .running ∧ Ended s₂ below o ∧ ∃ v L, o = .returned v ∧ Q v s₂.heap L ∧ FrameEnd s o s₂ L k n
theorem Goes.step (q : ∀ t, Steps p.tables e below B t → Steps p.tables e below A t) (g : Goes p e below s Q k n B) : Goes p e below s Q k n A := by
  obtain ⟨s₂, o, h1, h2⟩ := g
  exact ⟨s₂, o, q _ h1, h2⟩
theorem Goes.via (q : Steps p.tables e below A B) (g : Goes p e below s Q k n B) : Goes p e below s Q k n A := by
  obtain ⟨s₂, o, h1, h2⟩ := g
  exact ⟨s₂, o, q.trans h1, h2⟩
theorem Goes.enter {g g' : JFrame} (q : g = g') (h : Goes p e below s Q k n (T.setTop g')) : Goes p e below s Q k n (T.setTop g) := q ▸ h
theorem Goes.out (X : Stand p l e R s m args below meth c T locs cells slots) (eT : T.heap = h) {v : Option Value} (hv : meth.sig.returnType = none → v = none) (hlk : meth.locks = false)
    (hs : ∀ fs, (∀ (f : JFrame) (acts : List Action), f.method = m → f.locked = none → f.entered = [] → (doReturn e (T.setTop f) acts v).1 = T.setFrames fs) → Steps p.tables e below A (T.setFrames fs)) (hk : cells ≤ k) (hn : slots ≤ n) (hQ : Q v h locs) : Goes p e below s Q k n A := by
  obtain ⟨fs, hr, hrun, hended, hW, hsame⟩ := X.leave (v := v) hv hlk
  exact ⟨_, _, hs fs hr, hrun, hended, _, _, rfl, (by show Q v T.heap locs; rw [eT]; exact hQ), ⟨_, rfl⟩, hW, hsame.mono hk hn⟩
theorem own_some {t : FieldType} {v : Option Value} (h : meth.sig.returnType = some t) : meth.sig.returnType = none → v = none := fun q => by rw [h] at q; cases q
theorem Goes.retI (X : Stand p l e R s m args below meth c T locs cells slots) (hx : p.tables.exec = Jvm.exec) (eT : T.heap = h) {pc : Nat} {Ls : Array Slot} {z : Int32} {rest : List Value} (hret : meth.sig.returnType = some .int) (hlk : meth.locks = false) (hd : decode c.code pc = .ok (.ireturn, 1)) (hk : cells ≤ k) (hn : slots ≤ n) (hQ : Q (some (.int z)) h locs) :
    Goes p e below s Q k n (T.setTop (mkF m pc Ls (.int z :: rest))) :=
  Goes.out X eT (own_some hret) hlk (fun fs hr => retOut X hx hret rfl (Or.inl ⟨rfl, Or.inl rfl, z, rfl⟩) hd hr) hk hn hQ
theorem Goes.retN (X : Stand p l e R s m args below meth c T locs cells slots) (hx : p.tables.exec = Jvm.exec) (eT : T.heap = h) {pc : Nat} {Ls : Array Slot} {z : Int32} {t : FieldType} {rest : List Value} (hret : meth.sig.returnType = some t) (ht : t = .boolean ∨ t = .byte ∨ t = .char ∨ t = .short) (hlk : meth.locks = false) (hd : decode c.code pc = .ok (.ireturn, 1)) (hk : cells ≤ k) (hn : slots ≤ n) (hQ : Q (some (.int (nar t z))) h locs) :
    Goes p e below s Q k n (T.setTop (mkF m pc Ls (.int z :: rest))) :=
  Goes.out X eT (own_some hret) hlk (fun fs hr => Jvm.RoadKit.retN X hx hret ht hd hr) hk hn hQ
theorem Goes.retV (X : Stand p l e R s m args below meth c T locs cells slots) (hx : p.tables.exec = Jvm.exec) (eT : T.heap = h) {pc : Nat} {Ls : Array Slot} (hret : meth.sig.returnType = none) (hlk : meth.locks = false) (hd : decode c.code pc = .ok (.return_, 1)) (hk : cells ≤ k) (hn : slots ≤ n) (hQ : Q none h locs) :
    Goes p e below s Q k n (T.setTop (mkF m pc Ls [])) :=
  Goes.out X eT (fun _ => rfl) hlk (fun fs hr => X.returnOut hx hret hd hr) hk hn hQ
theorem Goes.retJ (X : Stand p l e R s m args below meth c T locs cells slots) (hx : p.tables.exec = Jvm.exec) (eT : T.heap = h) {pc : Nat} {Ls : Array Slot} {z : Int64} {rest : List Value} (hret : meth.sig.returnType = some .long) (hlk : meth.locks = false) (hd : decode c.code pc = .ok (.lreturn, 1)) (hk : cells ≤ k) (hn : slots ≤ n) (hQ : Q (some (.long z)) h locs) :
    Goes p e below s Q k n (T.setTop (mkF m pc Ls (.long z :: rest))) :=
  Goes.out X eT (own_some hret) hlk (fun fs hr => retOut X hx hret rfl (Or.inr (Or.inl ⟨rfl, rfl, z, rfl⟩)) hd hr) hk hn hQ
theorem Goes.retD (X : Stand p l e R s m args below meth c T locs cells slots) (hx : p.tables.exec = Jvm.exec) (eT : T.heap = h) {pc : Nat} {Ls : Array Slot} {z : UInt64} {rest : List Value} (hret : meth.sig.returnType = some .double) (hlk : meth.locks = false) (hd : decode c.code pc = .ok (.dreturn, 1)) (hk : cells ≤ k) (hn : slots ≤ n) (hQ : Q (some (.double z)) h locs) :
    Goes p e below s Q k n (T.setTop (mkF m pc Ls (.double z :: rest))) :=
  Goes.out X eT (own_some hret) hlk (fun fs hr => retOut X hx hret rfl (Or.inr (Or.inr (Or.inl ⟨rfl, rfl, z, rfl⟩))) hd hr) hk hn hQ
theorem own_narR {t : FieldType} {w : Value} (h : t.isReference = true) : narrow t w = w := by cases t <;> first | rfl | (cases w <;> first | rfl | cases h)
theorem Goes.retA (X : Stand p l e R s m args below meth c T locs cells slots) (hx : p.tables.exec = Jvm.exec) (eT : T.heap = h) {pc : Nat} {Ls : Array Slot} {w : Value} {t : FieldType} {rest : List Value} (hret : meth.sig.returnType = some t) (ht : t.isReference = true) (hw : w.isRef = true) (hlk : meth.locks = false) (hd : decode c.code pc = .ok (.areturn, 1)) (hk : cells ≤ k) (hn : slots ≤ n) (hQ : Q (some w) h locs) :
    Goes p e below s Q k n (T.setTop (mkF m pc Ls (w :: rest))) :=
  Goes.out X eT (own_some hret) hlk (fun fs hr => retOut X hx hret (own_narR ht) (Or.inr (Or.inr (Or.inr (Or.inr ⟨rfl, ht, hw⟩)))) hd hr) hk hn hQ
theorem own_z {Z : State} {n0 : Nat} (O : Old Z n0 h) : n0 ≤ h.size := O.1 ▸ O.2.1
end Own
end Jvm.RoadKit
namespace Jvm.RoadKit
open Sem ClassFile Op Lib Jvm.Stand Jvm.Free Jvm.LawKit
section OwnW
variable {p : Program} {l : Launch} {e : Env} {R : Room} {s : State} {m : MethodId} {args : Array Value} {below : List Frame} {meth : Method} {c : Code} {T : State} {locs : List Loc} {cells slots : Nat} {Q : Option Value → Heap → List Loc → Prop} {k n : Nat} {A B : State} {h : Heap}
/-- the same, of a run that may intern String constants: the start s, its tables at hand vm0 -/
def GoesW (p : Program) (e : Env) (below : List Frame) (s : State) (Q : Option Value → Heap → List Loc → Prop) (k n : Nat) (A : State) : Prop :=
  ∃ s₂ o, Steps p.tables e below A s₂ ∧ s₂.status = .running ∧ Ended s₂ below o ∧ ∃ v L, o = .returned v ∧ Q v s₂.heap L ∧ ReturnedEndW s o s₂ L k n
theorem GoesW.step (q : ∀ t, Steps p.tables e below B t → Steps p.tables e below A t) (g : GoesW p e below s Q k n B) : GoesW p e below s Q k n A := by
  obtain ⟨s₂, o, h1, h2⟩ := g
  exact ⟨s₂, o, q _ h1, h2⟩
theorem GoesW.via (q : Steps p.tables e below A B) (g : GoesW p e below s Q k n B) : GoesW p e below s Q k n A := by
  obtain ⟨s₂, o, h1, h2⟩ := g
  exact ⟨s₂, o, q.trans h1, h2⟩
theorem GoesW.enter {g g' : JFrame} (q : g = g') (h : GoesW p e below s Q k n (T.setTop g')) : GoesW p e below s Q k n (T.setTop g) := q ▸ h
theorem GoesW.out {vm0 : Vm} {k0 : Nat} (X : Stand p l e R (s.setVm vm0) m args below meth c T locs cells slots) (hS : s.Since vm0 k0) (hk0 : k0 ≤ h.size) (eT : T.heap = h) {v : Option Value} (hv : meth.sig.returnType = none → v = none) (hlk : meth.locks = false)
    (hs : ∀ fs, (∀ (f : JFrame) (acts : List Action), f.method = m → f.locked = none → f.entered = [] → (doReturn e (T.setTop f) acts v).1 = T.setFrames fs) → Steps p.tables e below A (T.setFrames fs)) (hk : cells ≤ k) (hn : slots ≤ n) (hQ : Q v h locs) : GoesW p e below s Q k n A := by
  obtain ⟨fs, hr, hrun, hended, hW1, hW2, hW3, hW4⟩ := X.leaveW hS (by rw [eT]; exact hk0) (v := v) hv hlk
  exact ⟨_, _, hs fs hr, hrun, hended, _, _, rfl, (by show Q v T.heap locs; rw [eT]; exact hQ), hW1, hW2, hW3, hW4.mono hk hn⟩
theorem GoesW.retI {vm0 : Vm} {k0 : Nat} (X : Stand p l e R (s.setVm vm0) m args below meth c T locs cells slots) (hS : s.Since vm0 k0) (hk0 : k0 ≤ h.size) (hx : p.tables.exec = Jvm.exec) (eT : T.heap = h) {pc : Nat} {Ls : Array Slot} {z : Int32} {rest : List Value} (hret : meth.sig.returnType = some .int) (hlk : meth.locks = false) (hd : decode c.code pc = .ok (.ireturn, 1)) (hk : cells ≤ k) (hn : slots ≤ n) (hQ : Q (some (.int z)) h locs) :
    GoesW p e below s Q k n (T.setTop (mkF m pc Ls (.int z :: rest))) :=
  GoesW.out X hS hk0 eT (own_some hret) hlk (fun fs hr => retOut X hx hret rfl (Or.inl ⟨rfl, Or.inl rfl, z, rfl⟩) hd hr) hk hn hQ
theorem GoesW.retN {vm0 : Vm} {k0 : Nat} (X : Stand p l e R (s.setVm vm0) m args below meth c T locs cells slots) (hS : s.Since vm0 k0) (hk0 : k0 ≤ h.size) (hx : p.tables.exec = Jvm.exec) (eT : T.heap = h) {pc : Nat} {Ls : Array Slot} {z : Int32} {t : FieldType} {rest : List Value} (hret : meth.sig.returnType = some t) (ht : t = .boolean ∨ t = .byte ∨ t = .char ∨ t = .short) (hlk : meth.locks = false) (hd : decode c.code pc = .ok (.ireturn, 1)) (hk : cells ≤ k) (hn : slots ≤ n) (hQ : Q (some (.int (nar t z))) h locs) :
    GoesW p e below s Q k n (T.setTop (mkF m pc Ls (.int z :: rest))) :=
  GoesW.out X hS hk0 eT (own_some hret) hlk (fun fs hr => Jvm.RoadKit.retN X hx hret ht hd hr) hk hn hQ
theorem GoesW.retV {vm0 : Vm} {k0 : Nat} (X : Stand p l e R (s.setVm vm0) m args below meth c T locs cells slots) (hS : s.Since vm0 k0) (hk0 : k0 ≤ h.size) (hx : p.tables.exec = Jvm.exec) (eT : T.heap = h) {pc : Nat} {Ls : Array Slot} (hret : meth.sig.returnType = none) (hlk : meth.locks = false) (hd : decode c.code pc = .ok (.return_, 1)) (hk : cells ≤ k) (hn : slots ≤ n) (hQ : Q none h locs) :
    GoesW p e below s Q k n (T.setTop (mkF m pc Ls [])) :=
  GoesW.out X hS hk0 eT (fun _ => rfl) hlk (fun fs hr => X.returnOut hx hret hd hr) hk hn hQ
theorem GoesW.retJ {vm0 : Vm} {k0 : Nat} (X : Stand p l e R (s.setVm vm0) m args below meth c T locs cells slots) (hS : s.Since vm0 k0) (hk0 : k0 ≤ h.size) (hx : p.tables.exec = Jvm.exec) (eT : T.heap = h) {pc : Nat} {Ls : Array Slot} {z : Int64} {rest : List Value} (hret : meth.sig.returnType = some .long) (hlk : meth.locks = false) (hd : decode c.code pc = .ok (.lreturn, 1)) (hk : cells ≤ k) (hn : slots ≤ n) (hQ : Q (some (.long z)) h locs) :
    GoesW p e below s Q k n (T.setTop (mkF m pc Ls (.long z :: rest))) :=
  GoesW.out X hS hk0 eT (own_some hret) hlk (fun fs hr => retOut X hx hret rfl (Or.inr (Or.inl ⟨rfl, rfl, z, rfl⟩)) hd hr) hk hn hQ
theorem GoesW.retA {vm0 : Vm} {k0 : Nat} (X : Stand p l e R (s.setVm vm0) m args below meth c T locs cells slots) (hS : s.Since vm0 k0) (hk0 : k0 ≤ h.size) (hx : p.tables.exec = Jvm.exec) (eT : T.heap = h) {pc : Nat} {Ls : Array Slot} {w : Value} {t : FieldType} {rest : List Value} (hret : meth.sig.returnType = some t) (ht : t.isReference = true) (hw : w.isRef = true) (hlk : meth.locks = false) (hd : decode c.code pc = .ok (.areturn, 1)) (hk : cells ≤ k) (hn : slots ≤ n) (hQ : Q (some w) h locs) :
    GoesW p e below s Q k n (T.setTop (mkF m pc Ls (w :: rest))) :=
  GoesW.out X hS hk0 eT (own_some hret) hlk (fun fs hr => retOut X hx hret (own_narR ht) (Or.inr (Or.inr (Or.inr (Or.inr ⟨rfl, ht, hw⟩)))) hd hr) hk hn hQ
end OwnW
end Jvm.RoadKit
namespace Jvm.RoadKit
open Sem ClassFile Op Lib Jvm.Stand Jvm.Free Jvm.LawKit
section OwnH
variable {p : Program} {l : Launch} {e : Env} {R : Room} {s : State} {m : MethodId} {args : Array Value} {below : List Frame} {meth : Method} {c : Code} {T : State} {locs : List Loc} {cells slots : Nat} {Q : Option Value → Heap → List Loc → Prop} {k n : Nat} {A B : State} {h : Heap} {Z : State} {a0 : Array Value} {EL : List (String × Nat)}
def GoesH (p : Program) (e : Env) (below : List Frame) (s Z : State) (EL : List (String × Nat)) (Q : Option Value → Heap → List Loc → Prop) (k n : Nat) (A : State) : Prop :=
  ∃ s₂ o, Steps p.tables e below A s₂ ∧ s₂.status = .running ∧ Ended s₂ below o ∧ ∃ v L, o = .returned v ∧ Q v s₂.heap L ∧ CHr Z EL s.vm s.heap s₂.vm s₂.heap ∧ ReturnedEndW s o s₂ L k n
theorem GoesH.step (q : ∀ t, Steps p.tables e below B t → Steps p.tables e below A t) (g : GoesH p e below s Z EL Q k n B) : GoesH p e below s Z EL Q k n A := by
  obtain ⟨s₂, o, h1, h2⟩ := g
  exact ⟨s₂, o, q _ h1, h2⟩
theorem GoesH.via (q : Steps p.tables e below A B) (g : GoesH p e below s Z EL Q k n B) : GoesH p e below s Z EL Q k n A := by
  obtain ⟨s₂, o, h1, h2⟩ := g
  exact ⟨s₂, o, q.trans h1, h2⟩
theorem GoesH.enter {g g' : JFrame} (q : g = g') (h : GoesH p e below s Z EL Q k n (T.setTop g')) : GoesH p e below s Z EL Q k n (T.setTop g) := q ▸ h
theorem GoesH.out {vm0 : Vm} {k0 : Nat} (X : Stand p l e R (s.setVm vm0) m args below meth c T locs cells slots) (hS : s.Since vm0 k0) (hk0 : k0 ≤ h.size) (hZ : Z.Warmed39 (s.setVm vm0).vm) (hEL : EW Z a0 EL) (hCH : CHr Z EL s.vm s.heap vm0 h) (eT : T.heap = h) {v : Option Value} (hv : meth.sig.returnType = none → v = none) (hlk : meth.locks = false)
    (hs : ∀ fs, (∀ (f : JFrame) (acts : List Action), f.method = m → f.locked = none → f.entered = [] → (doReturn e (T.setTop f) acts v).1 = T.setFrames fs) → Steps p.tables e below A (T.setFrames fs)) (hk : cells ≤ k) (hn : slots ≤ n) (hQ : Q v h locs) : GoesH p e below s Z EL Q k n A := by
  obtain ⟨fs, hr, hrun, hended, hW1, hW2, hW3, hW4⟩ := X.leaveW hS (by rw [eT]; exact hk0) (v := v) hv hlk
  exact ⟨_, _, hs fs hr, hrun, hended, _, _, rfl, (by show Q v T.heap locs; rw [eT]; exact hQ), (by show CHr Z EL s.vm s.heap T.vm T.heap; rw [eT]; exact hCH.trans (CHv.at X hZ hEL hCH.1)), hW1, hW2, hW3, hW4.mono hk hn⟩
theorem GoesH.retI {vm0 : Vm} {k0 : Nat} (X : Stand p l e R (s.setVm vm0) m args below meth c T locs cells slots) (hS : s.Since vm0 k0) (hk0 : k0 ≤ h.size) (hZ : Z.Warmed39 (s.setVm vm0).vm) (hEL : EW Z a0 EL) (hCH : CHr Z EL s.vm s.heap vm0 h) (hx : p.tables.exec = Jvm.exec) (eT : T.heap = h) {pc : Nat} {Ls : Array Slot} {z : Int32} {rest : List Value} (hret : meth.sig.returnType = some .int) (hlk : meth.locks = false) (hd : decode c.code pc = .ok (.ireturn, 1)) (hk : cells ≤ k) (hn : slots ≤ n) (hQ : Q (some (.int z)) h locs) :
    GoesH p e below s Z EL Q k n (T.setTop (mkF m pc Ls (.int z :: rest))) :=
  GoesH.out X hS hk0 hZ hEL hCH eT (own_some hret) hlk (fun fs hr => retOut X hx hret rfl (Or.inl ⟨rfl, Or.inl rfl, z, rfl⟩) hd hr) hk hn hQ
theorem GoesH.retN {vm0 : Vm} {k0 : Nat} (X : Stand p l e R (s.setVm vm0) m args below meth c T locs cells slots) (hS : s.Since vm0 k0) (hk0 : k0 ≤ h.size) (hZ : Z.Warmed39 (s.setVm vm0).vm) (hEL : EW Z a0 EL) (hCH : CHr Z EL s.vm s.heap vm0 h) (hx : p.tables.exec = Jvm.exec) (eT : T.heap = h) {pc : Nat} {Ls : Array Slot} {z : Int32} {t : FieldType} {rest : List Value} (hret : meth.sig.returnType = some t) (ht : t = .boolean ∨ t = .byte ∨ t = .char ∨ t = .short) (hlk : meth.locks = false) (hd : decode c.code pc = .ok (.ireturn, 1)) (hk : cells ≤ k) (hn : slots ≤ n) (hQ : Q (some (.int (nar t z))) h locs) :
    GoesH p e below s Z EL Q k n (T.setTop (mkF m pc Ls (.int z :: rest))) :=
  GoesH.out X hS hk0 hZ hEL hCH eT (own_some hret) hlk (fun fs hr => Jvm.RoadKit.retN X hx hret ht hd hr) hk hn hQ
theorem GoesH.retV {vm0 : Vm} {k0 : Nat} (X : Stand p l e R (s.setVm vm0) m args below meth c T locs cells slots) (hS : s.Since vm0 k0) (hk0 : k0 ≤ h.size) (hZ : Z.Warmed39 (s.setVm vm0).vm) (hEL : EW Z a0 EL) (hCH : CHr Z EL s.vm s.heap vm0 h) (hx : p.tables.exec = Jvm.exec) (eT : T.heap = h) {pc : Nat} {Ls : Array Slot} (hret : meth.sig.returnType = none) (hlk : meth.locks = false) (hd : decode c.code pc = .ok (.return_, 1)) (hk : cells ≤ k) (hn : slots ≤ n) (hQ : Q none h locs) :
    GoesH p e below s Z EL Q k n (T.setTop (mkF m pc Ls [])) :=
  GoesH.out X hS hk0 hZ hEL hCH eT (fun _ => rfl) hlk (fun fs hr => X.returnOut hx hret hd hr) hk hn hQ
theorem GoesH.retJ {vm0 : Vm} {k0 : Nat} (X : Stand p l e R (s.setVm vm0) m args below meth c T locs cells slots) (hS : s.Since vm0 k0) (hk0 : k0 ≤ h.size) (hZ : Z.Warmed39 (s.setVm vm0).vm) (hEL : EW Z a0 EL) (hCH : CHr Z EL s.vm s.heap vm0 h) (hx : p.tables.exec = Jvm.exec) (eT : T.heap = h) {pc : Nat} {Ls : Array Slot} {z : Int64} {rest : List Value} (hret : meth.sig.returnType = some .long) (hlk : meth.locks = false) (hd : decode c.code pc = .ok (.lreturn, 1)) (hk : cells ≤ k) (hn : slots ≤ n) (hQ : Q (some (.long z)) h locs) :
    GoesH p e below s Z EL Q k n (T.setTop (mkF m pc Ls (.long z :: rest))) :=
  GoesH.out X hS hk0 hZ hEL hCH eT (own_some hret) hlk (fun fs hr => retOut X hx hret rfl (Or.inr (Or.inl ⟨rfl, rfl, z, rfl⟩)) hd hr) hk hn hQ
theorem GoesH.retA {vm0 : Vm} {k0 : Nat} (X : Stand p l e R (s.setVm vm0) m args below meth c T locs cells slots) (hS : s.Since vm0 k0) (hk0 : k0 ≤ h.size) (hZ : Z.Warmed39 (s.setVm vm0).vm) (hEL : EW Z a0 EL) (hCH : CHr Z EL s.vm s.heap vm0 h) (hx : p.tables.exec = Jvm.exec) (eT : T.heap = h) {pc : Nat} {Ls : Array Slot} {w : Value} {t : FieldType} {rest : List Value} (hret : meth.sig.returnType = some t) (ht : t.isReference = true) (hw : w.isRef = true) (hlk : meth.locks = false) (hd : decode c.code pc = .ok (.areturn, 1)) (hk : cells ≤ k) (hn : slots ≤ n) (hQ : Q (some w) h locs) :
    GoesH p e below s Z EL Q k n (T.setTop (mkF m pc Ls (w :: rest))) :=
  GoesH.out X hS hk0 hZ hEL hCH eT (own_some hret) hlk (fun fs hr => retOut X hx hret (own_narR ht) (Or.inr (Or.inr (Or.inr (Or.inr ⟨rfl, ht, hw⟩)))) hd hr) hk hn hQ
end OwnH
end Jvm.RoadKit
namespace Jvm.Pilot.@@N@@
open Jvm Jvm.ClassFile Sem Op Lib Jvm.Free Jvm.Stand Jvm.LawKit Jvm.RoadKit Bundle Jvm.Pilot.@@N@@.Jvm.D
def own_EL : List (String × Nat) := [("com/example/roundkeeper/roundkeeper/rulesets/sealedorders/LoadingReloadsPinLaw", 26)]
theorem own_EW {Z : State} {a0 : Array Value} (hw : ∀ d ∈ tables_1, d.before a0 Z = true) : EW Z a0 own_EL := (EW.cons (hw _ (List.mem_of_getElem? (i := 12) rfl)) (by decide) (fun p hp => nomatch hp))
theorem own_eqI {args : Array Value} {first s : State} {o : Option Outcome} {idx : List Nat} {t : Term} {v : Int32} (h : (Jvm.Cond.eq t (.int v)).value args first o s idx = some true) : t.eval args first o idx s = some (.int v) := by
  obtain ⟨x, y, hx, hy, k1, k2⟩ := cmp_v (Or.inl h)
  rw [Term.int_eval] at hy
  obtain rfl := Option.some.inj hy
  obtain ⟨z, rfl⟩ := k2
  have q : z = v := by simpa [Jvm.Cond.value, hx, Term.int_eval] using h
  rw [hx, q]
theorem own_eqR {args : Array Value} {first s : State} {o : Option Outcome} {idx : List Nat} {t u : Term} {a : Addr} (hu : u.eval args first o idx s = some (.ref a)) (h : (Jvm.Cond.eq t u).value args first o s idx = some true) : t.eval args first o idx s = some (.ref a) := by
  obtain ⟨x, y, hx, hy, k1, k2⟩ := cmp_v (Or.inl h)
  obtain rfl := Option.some.inj (hu.symm.trans hy)
  obtain ⟨-, q⟩ := k2
  have q2 := gotT (eq_R hx hu q rfl) h
  rw [hx, q2]
theorem own_len {args : Array Value} {s : State} {t : Term} {n : Int32} {a : Addr} {cl : Cell} {ty : FieldType} (A : Arr s s.heap a cl ty) (ev : t.eval args s none [] s = some (.ref a)) (h : (Jvm.Cond.eq (.length t) (.int n)).value args s none s [] = some true) : cl.slots.size < 2 ^ 31 ∧ cl.slots.size.toInt32 = n := by
  have q := own_eqI h
  have f := A.fin (Vm.Alike.refl _)
  by_cases hl : cl.slots.size < 2 ^ 31
  · rw [len_f ev f hl] at q
    exact ⟨hl, Value.int.inj (Option.some.inj q)⟩
  · simp [Term.eval, ev, f, hl] at q
theorem own_el {args : Array Value} {s : State} {t : Term} {j v : Int32} {a : Addr} {cl : Cell} {ty : FieldType} (A : Arr s s.heap a cl ty) (ev : t.eval args s none [] s = some (.ref a)) (h : (Jvm.Cond.eq (.elem t (.int j)) (.int v)).value args s none s [] = some true) : cl.slots[j.toNatClampNeg]? = some (.int v) := (elem_in (own_eqI h) ev (Term.int_eval j) A.1).2
theorem own_elR {args : Array Value} {s : State} {t u : Term} {j : Int32} {a b : Addr} {cl : Cell} {ty : FieldType} (A : Arr s s.heap a cl ty) (ev : t.eval args s none [] s = some (.ref a)) (hu : u.eval args s none [] s = some (.ref b)) (h : (Jvm.Cond.eq (.elem t (.int j)) u).value args s none s [] = some true) : cl.slots[j.toNatClampNeg]? = some (.ref b) := (elem_in (own_eqR hu h) ev (Term.int_eval j) A.1).2
def OwnSt (Z : State) (a_NONE : Addr) (a_QUICK_RELOAD : Addr) (a_COMPLEX_RELOAD : Addr) (a_COMPLEX_RELOAD_spent : Addr) (a_COMPLEX_RELOAD_spent_value : Addr) (a_THROWN : Addr) (a_THROWN_spent : Addr) (a_THROWN_spent_value : Addr) (k_COMPLEX_RELOAD_spent_value : ClassId) (k_THROWN_spent_value : ClassId) (cs : Int32) : Prop := Sta Z Z.heap "com/example/roundkeeper/roundkeeper/rulesets/sealedorders/Weapon$Loading" "NONE" "Lcom/example/roundkeeper/roundkeeper/rulesets/sealedorders/Weapon$Loading;" (.ref a_NONE) ∧ Exa Z Z.heap a_NONE "com/example/roundkeeper/roundkeeper/rulesets/sealedorders/Weapon$Loading" ∧ Sta Z Z.heap "com/example/roundkeeper/roundkeeper/rulesets/sealedorders/Weapon$Loading" "QUICK_RELOAD" "Lcom/example/roundkeeper/roundkeeper/rulesets/sealedorders/Weapon$Loading;" (.ref a_QUICK_RELOAD) ∧ Exa Z Z.heap a_QUICK_RELOAD "com/example/roundkeeper/roundkeeper/rulesets/sealedorders/Weapon$Loading" ∧ Fld Z Z.heap a_NONE "java/lang/Enum" "ordinal" "I" (.int (0 : Int32)) ∧ Fld Z Z.heap a_QUICK_RELOAD "java/lang/Enum" "ordinal" "I" (.int (2 : Int32)) ∧ Sta Z Z.heap "com/example/roundkeeper/roundkeeper/rulesets/sealedorders/Weapon$Loading" "COMPLEX_RELOAD" "Lcom/example/roundkeeper/roundkeeper/rulesets/sealedorders/Weapon$Loading;" (.ref a_COMPLEX_RELOAD) ∧ Exa Z Z.heap a_COMPLEX_RELOAD "com/example/roundkeeper/roundkeeper/rulesets/sealedorders/Weapon$Loading" ∧ Fld Z Z.heap a_COMPLEX_RELOAD "java/lang/Enum" "ordinal" "I" (.int (3 : Int32)) ∧ Fld Z Z.heap a_NONE "com/example/roundkeeper/roundkeeper/rulesets/sealedorders/Weapon$Loading" "spent" "Ljava/lang/String;" .null ∧ Fld Z Z.heap a_COMPLEX_RELOAD "com/example/roundkeeper/roundkeeper/rulesets/sealedorders/Weapon$Loading" "spent" "Ljava/lang/String;" (.ref a_COMPLEX_RELOAD_spent) ∧ Exa Z Z.heap a_COMPLEX_RELOAD_spent "java/lang/String" ∧ Fld Z Z.heap a_COMPLEX_RELOAD_spent "java/lang/String" "coder" "B" (.int (0 : Int32)) ∧ Fld Z Z.heap a_COMPLEX_RELOAD_spent "java/lang/String" "value" "[B" (.ref a_COMPLEX_RELOAD_spent_value) ∧ Fld Z Z.heap a_QUICK_RELOAD "com/example/roundkeeper/roundkeeper/rulesets/sealedorders/Weapon$Loading" "spent" "Ljava/lang/String;" (.ref a_COMPLEX_RELOAD_spent) ∧ Sta Z Z.heap "com/example/roundkeeper/roundkeeper/rulesets/sealedorders/Weapon$Loading" "THROWN" "Lcom/example/roundkeeper/roundkeeper/rulesets/sealedorders/Weapon$Loading;" (.ref a_THROWN) ∧ Exa Z Z.heap a_THROWN "com/example/roundkeeper/roundkeeper/rulesets/sealedorders/Weapon$Loading" ∧ Fld Z Z.heap a_THROWN "java/lang/Enum" "ordinal" "I" (.int (1 : Int32)) ∧ Fld Z Z.heap a_THROWN "com/example/roundkeeper/roundkeeper/rulesets/sealedorders/Weapon$Loading" "spent" "Ljava/lang/String;" (.ref a_THROWN_spent) ∧ Exa Z Z.heap a_THROWN_spent "java/lang/String" ∧ Fld Z Z.heap a_THROWN_spent "java/lang/String" "coder" "B" (.int (0 : Int32)) ∧ Fld Z Z.heap a_THROWN_spent "java/lang/String" "value" "[B" (.ref a_THROWN_spent_value) ∧ Arv Z Z.heap a_COMPLEX_RELOAD_spent_value k_COMPLEX_RELOAD_spent_value .byte (10 : Int32) [(.int (110 : Int32)), (.int (111 : Int32)), (.int (116 : Int32)), (.int (32 : Int32)), (.int (108 : Int32)), (.int (111 : Int32)), (.int (97 : Int32)), (.int (100 : Int32)), (.int (101 : Int32)), (.int (100 : Int32))] (.int (0 : Int32)) ∧ Arv Z Z.heap a_THROWN_spent_value k_THROWN_spent_value .byte (6 : Int32) [(.int (116 : Int32)), (.int (104 : Int32)), (.int (114 : Int32)), (.int (111 : Int32)), (.int (119 : Int32)), (.int (110 : Int32))] (.int (0 : Int32)) ∧ Sta Z Z.heap "java/lang/String" "COMPACT_STRINGS" "Z" (.int cs) ∧ ¬ cs = (0 : Int32)
theorem own_m3 {x z : Int32} (h : z = (x &&& (3 : Int32))) : z = 0 ∨ z = 1 ∨ z = 2 ∨ z = 3 := by
  have a := c_mask x 3 2 (by decide) (by decide)
  rw [← h] at a
  have q : z.toInt = 0 ∨ z.toInt = 1 ∨ z.toInt = 2 ∨ z.toInt = 3 := by omega
  rcases q with q | q | q | q
  · exact Or.inl (Int32.toInt_inj.mp q)
  · exact Or.inr (Or.inl (Int32.toInt_inj.mp q))
  · exact Or.inr (Or.inr (Or.inl (Int32.toInt_inj.mp q)))
  · exact Or.inr (Or.inr (Or.inr (Int32.toInt_inj.mp q)))
def own_rel (x b c : Addr) : Int32 := if x = b then 1 else if x = c then 1 else 0
theorem own_neV {Z : State} {h : Heap} {b b' : Addr} {k k' : ClassId} {ty ty' : FieldType} {z z' : Int32} {vs vs' : List Value} {d d' : Value} (A : Arv Z h b k ty z vs d) (B : Arv Z h b' k' ty' z' vs' d') (q : z.toNatClampNeg ≠ z'.toNatClampNeg) : b ≠ b' := fun e => by
  subst e
  obtain ⟨c1, A1, -, s1, -⟩ := A
  obtain ⟨c2, A2, -, s2, -⟩ := B
  have e2 : c1 = c2 := Option.some.inj (A1.1.symm.trans A2.1)
  rw [← e2, s1] at s2
  exact q s2
theorem own_refne {a b : Addr} (h : a ≠ b) : Value.ref a ≠ Value.ref b := fun q => h (Value.ref.inj q)
theorem d1_0 : decode prog_37_method_6_code 0 = .ok (.aload_n 0, 1) := by decide +kernel
theorem d1_1 : decode prog_37_method_6_code 1 = .ok (.getstatic 10, 3) := by decide +kernel
theorem d1_4 : decode prog_37_method_6_code 4 = .ok (.if_acmp .eq 10, 3) := by decide +kernel
theorem d1_14 : decode prog_37_method_6_code 14 = .ok (.iconst 1, 1) := by decide +kernel
theorem d1_15 : decode prog_37_method_6_code 15 = .ok (.goto 4, 3) := by decide +kernel
theorem d1_19 : decode prog_37_method_6_code 19 = .ok (.ireturn, 1) := by decide +kernel
theorem d1_7 : decode prog_37_method_6_code 7 = .ok (.aload_n 0, 1) := by decide +kernel
theorem d1_8 : decode prog_37_method_6_code 8 = .ok (.getstatic 13, 3) := by decide +kernel
theorem d1_11 : decode prog_37_method_6_code 11 = .ok (.if_acmp .ne 7, 3) := by decide +kernel
theorem d1_18 : decode prog_37_method_6_code 18 = .ok (.iconst 0, 1) := by decide +kernel
theorem pn_Weapon_Loading : plainName "com/example/roundkeeper/roundkeeper/rulesets/sealedorders/Weapon$Loading" = true := by first | (simp [plainName, overriddenIn]; done) | decide +kernel
theorem ef_rm1 (m : MethodId) (x0 : Addr) : entryFrame m #[(.ref x0)] 1 = mkF m 0 #[.val (.ref x0)] [] := by first | (simp [entryFrame, mkF, argsToLocals, Value.category]; done) | rfl
def Q1 (Z : State) (a1 : Addr) (a_NONE : Addr) (a_QUICK_RELOAD : Addr) (a_COMPLEX_RELOAD : Addr) (a_COMPLEX_RELOAD_spent : Addr) (a_COMPLEX_RELOAD_spent_value : Addr) (a_THROWN : Addr) (a_THROWN_spent : Addr) (a_THROWN_spent_value : Addr) (k_COMPLEX_RELOAD_spent_value : ClassId) (k_THROWN_spent_value : ClassId) (cs : Int32) (h0 : Heap) (n0 : Nat) (v : Option Value) (h : Heap) (L : List Loc) : Prop := v = some (.int (own_rel a1 a_QUICK_RELOAD a_COMPLEX_RELOAD)) ∧ Fr n0 L ∧ h = h0
set_option maxRecDepth 65536 in
set_option maxHeartbeats 40000000 in
theorem rm1 (l : Launch) (Z : State) (a0 : Array Value) (hw : ∀ d ∈ tables_1, d.before a0 Z = true) (ws : List Jvm.Cond) (a1 : Addr) (a_NONE : Addr) (a_QUICK_RELOAD : Addr) (a_COMPLEX_RELOAD : Addr) (a_COMPLEX_RELOAD_spent : Addr) (a_COMPLEX_RELOAD_spent_value : Addr) (a_THROWN : Addr) (a_THROWN_spent : Addr) (a_THROWN_spent_value : Addr) (k_COMPLEX_RELOAD_spent_value : ClassId) (k_THROWN_spent_value : ClassId) (cs : Int32) (h0 : Heap) (n0 : Nat) (O0 : Old Z n0 h0) (FS : OwnSt Z a_NONE a_QUICK_RELOAD a_COMPLEX_RELOAD a_COMPLEX_RELOAD_spent a_COMPLEX_RELOAD_spent_value a_THROWN a_THROWN_spent a_THROWN_spent_value k_COMPLEX_RELOAD_spent_value k_THROWN_spent_value cs) :
    MetFree l (⟨"com/example/roundkeeper/roundkeeper/rulesets/sealedorders/Weapon$Loading", "reloads", "()Z"⟩ : MethodName) (head1 (Jvm.Cond.code (⟨"com/example/roundkeeper/roundkeeper/rulesets/sealedorders/Weapon$Loading", "reloads", "()Z"⟩ : MethodName) prog_37_method_6_code 1 (some .boolean) :: ws) ({ frames := 0, cells := 0, slots := 0, locals := 0 } : Room)) (fun a U => a = #[(.ref a1)] ∧ Z.Warmed39 U.vm ∧ U.heap = h0) (fun _ _ _ _ _ => True) (fun _ U o U' => ∃ v L, o = .returned v ∧ Q1 Z a1 a_NONE a_QUICK_RELOAD a_COMPLEX_RELOAD a_COMPLEX_RELOAD_spent a_COMPLEX_RELOAD_spent_value a_THROWN a_THROWN_spent a_THROWN_spent_value k_COMPLEX_RELOAD_spent_value k_THROWN_spent_value cs h0 n0 v U'.heap L ∧ FrameEnd U o U' L ({ frames := 0, cells := 0, slots := 0, locals := 0 } : Room).cells ({ frames := 0, cells := 0, slots := 0, locals := 0 } : Room).slots) := by
  refine MetFree.of_bodySF (plainFor_of_name pn_Weapon_Loading) hisR ?_
  intro p e s m args below meth c s₁ Bd hml0 hP hK
  obtain ⟨rfl, hZ, hh⟩ := hP
  have hx := Bd.exec
  have hby := Bd.bytes
  have hlk : meth.locks = false := BodyLoose.notSynchronized Bd
  have hml : c.maxLocals = 1 := hml0
  have hown : s.vm.findClass "com/example/roundkeeper/roundkeeper/rulesets/sealedorders/Weapon$Loading" = some m.cls := findClass_of_methodNamed Bd.named
  have hnm := (name_of_methodNamed Bd.named Bd.method).1
  have X0 : Stand p l e ({ frames := 0, cells := 0, slots := 0, locals := 0 } : Room) s m #[(.ref a1)] below meth c s₁ [] 0 0 := Stand.of_body Bd
  have e0 : s₁.heap = h0 := by rw [← hh, Bd.state]; rfl
  have N0 := Fr.nil n0
  show Goes p e below s (Q1 Z a1 a_NONE a_QUICK_RELOAD a_COMPLEX_RELOAD a_COMPLEX_RELOAD_spent a_COMPLEX_RELOAD_spent_value a_THROWN a_THROWN_spent a_THROWN_spent_value k_COMPLEX_RELOAD_spent_value k_THROWN_spent_value cs h0 n0) ({ frames := 0, cells := 0, slots := 0, locals := 0 } : Room).cells ({ frames := 0, cells := 0, slots := 0, locals := 0 } : Room).slots (s₁.setTop (entryFrame m #[(.ref a1)] 1))
  refine Goes.enter (g' := (mkF m 0 #[.val (.ref a1)] [])) (ef_rm1 m a1) ?_
  have FS0 := FS
  obtain ⟨S_NONE, E_NONE, S_QUICK_RELOAD, E_QUICK_RELOAD, F_NONE_ordinal, F_QUICK_RELOAD_ordinal, S_COMPLEX_RELOAD, E_COMPLEX_RELOAD, F_COMPLEX_RELOAD_ordinal, F_NONE_spent, F_COMPLEX_RELOAD_spent, E_COMPLEX_RELOAD_spent, F_COMPLEX_RELOAD_spent_coder, F_COMPLEX_RELOAD_spent_value, F_QUICK_RELOAD_spent, S_THROWN, E_THROWN, F_THROWN_ordinal, F_THROWN_spent, E_THROWN_spent, F_THROWN_spent_coder, F_THROWN_spent_value, V_COMPLEX_RELOAD_spent_value, V_THROWN_spent_value, S_COMPACT_STRINGS, hcs⟩ := FS0
  have ne_a_NONE_a_QUICK_RELOAD : a_NONE ≠ a_QUICK_RELOAD := Fld.ne F_NONE_ordinal F_QUICK_RELOAD_ordinal (by decide)
  have ne_a_NONE_a_COMPLEX_RELOAD : a_NONE ≠ a_COMPLEX_RELOAD := Fld.ne F_NONE_ordinal F_COMPLEX_RELOAD_ordinal (by decide)
  have ne_a_NONE_a_THROWN : a_NONE ≠ a_THROWN := Fld.ne F_NONE_ordinal F_THROWN_ordinal (by decide)
  have ne_a_QUICK_RELOAD_a_COMPLEX_RELOAD : a_QUICK_RELOAD ≠ a_COMPLEX_RELOAD := Fld.ne F_QUICK_RELOAD_ordinal F_COMPLEX_RELOAD_ordinal (by decide)
  have ne_a_QUICK_RELOAD_a_THROWN : a_QUICK_RELOAD ≠ a_THROWN := Fld.ne F_QUICK_RELOAD_ordinal F_THROWN_ordinal (by decide)
  have ne_a_COMPLEX_RELOAD_a_THROWN : a_COMPLEX_RELOAD ≠ a_THROWN := Fld.ne F_COMPLEX_RELOAD_ordinal F_THROWN_ordinal (by decide)
  refine Goes.step (B := s₁.setTop (mkF m 1 #[.val (.ref a1)] [(.ref a1)])) (fun _ k => XS.aloadN X0.here hx rfl (hb hby d1_0) rfl rfl k) ?_
  have f1 := S_QUICK_RELOAD.ext O0.2
  obtain ⟨T2, X2, e2, st2⟩ := getS2 X0 hx hZ hown (host := "") (Or.inl (hw _ (List.mem_of_getElem? (i := 8) rfl))) Via.refl e0 f1 (g := (mkF m 1 #[.val (.ref a1)] [(.ref a1)])) rfl (hb hby d1_1)
  refine Goes.step (B := T2.setTop (mkF m 4 #[.val (.ref a1)] [(.ref a_QUICK_RELOAD), (.ref a1)])) st2 ?_
  by_cases hc4_2 : a1 = a_QUICK_RELOAD
  · refine Goes.step (B := T2.setTop (mkF m 14 #[.val (.ref a1)] [])) (fun _ k => Jvm.RoadKit.acmp (g := (mkF m 4 #[.val (.ref a1)] [(.ref a_QUICK_RELOAD), (.ref a1)])) X2 hx rfl rfl rfl (pc0 := 4) (pc' := 14) (same := true) rfl (hb hby d1_4) rfl (decide_eq_true (congrArg Value.ref hc4_2)) (by decide) (by decide) k) ?_
    refine Goes.step (B := T2.setTop (mkF m 15 #[.val (.ref a1)] [(.int (1 : Int32))])) (fun _ k => XS.iconst X2.here hx rfl (hb hby d1_14) k) ?_
    refine Goes.step (B := T2.setTop (mkF m 19 #[.val (.ref a1)] [(.int (1 : Int32))])) (fun _ k => XS.goto X2.here hx rfl (pc0 := 15) (pc' := 19) rfl (hb hby d1_15) (by decide) (by decide) k) ?_
    exact Goes.retN X2 hx e2 (t := .boolean) Bd.returns (by simp) hlk (hb hby d1_19) (by decide) (by decide) (⟨(by unfold own_rel; rw [if_pos hc4_2]; try rfl), N0, rfl⟩)
  · refine Goes.step (B := T2.setTop (mkF m 7 #[.val (.ref a1)] [])) (fun _ k => Jvm.RoadKit.acmp (g := (mkF m 4 #[.val (.ref a1)] [(.ref a_QUICK_RELOAD), (.ref a1)])) X2 hx rfl rfl rfl (pc0 := 4) (pc' := 7) (same := false) rfl (hb hby d1_4) rfl (decide_eq_false fun q => hc4_2 (Value.ref.inj q)) (by decide) (by decide) k) ?_
    refine Goes.step (B := T2.setTop (mkF m 8 #[.val (.ref a1)] [(.ref a1)])) (fun _ k => XS.aloadN X2.here hx rfl (hb hby d1_7) rfl rfl k) ?_
    have f4 := S_COMPLEX_RELOAD.ext O0.2
    obtain ⟨T5, X5, e5, st5⟩ := getS2 X2 hx hZ hown (host := "") (Or.inl (hw _ (List.mem_of_getElem? (i := 10) rfl))) Via.refl e2 f4 (g := (mkF m 8 #[.val (.ref a1)] [(.ref a1)])) rfl (hb hby d1_8)
    refine Goes.step (B := T5.setTop (mkF m 11 #[.val (.ref a1)] [(.ref a_COMPLEX_RELOAD), (.ref a1)])) st5 ?_
    by_cases hc11_5 : a1 = a_COMPLEX_RELOAD
    · refine Goes.step (B := T5.setTop (mkF m 14 #[.val (.ref a1)] [])) (fun _ k => Jvm.RoadKit.acmp (g := (mkF m 11 #[.val (.ref a1)] [(.ref a_COMPLEX_RELOAD), (.ref a1)])) X5 hx rfl rfl rfl (pc0 := 11) (pc' := 14) (same := true) rfl (hb hby d1_11) rfl (decide_eq_true (congrArg Value.ref hc11_5)) (by decide) (by decide) k) ?_
      refine Goes.step (B := T5.setTop (mkF m 15 #[.val (.ref a1)] [(.int (1 : Int32))])) (fun _ k => XS.iconst X5.here hx rfl (hb hby d1_14) k) ?_
      refine Goes.step (B := T5.setTop (mkF m 19 #[.val (.ref a1)] [(.int (1 : Int32))])) (fun _ k => XS.goto X5.here hx rfl (pc0 := 15) (pc' := 19) rfl (hb hby d1_15) (by decide) (by decide) k) ?_
      exact Goes.retN X5 hx e5 (t := .boolean) Bd.returns (by simp) hlk (hb hby d1_19) (by decide) (by decide) (⟨(by unfold own_rel; rw [if_neg hc4_2, if_pos hc11_5]; try rfl), N0, rfl⟩)
    · refine Goes.step (B := T5.setTop (mkF m 18 #[.val (.ref a1)] [])) (fun _ k => Jvm.RoadKit.acmp (g := (mkF m 11 #[.val (.ref a1)] [(.ref a_COMPLEX_RELOAD), (.ref a1)])) X5 hx rfl rfl rfl (pc0 := 11) (pc' := 18) (same := false) rfl (hb hby d1_11) rfl (decide_eq_false fun q => hc11_5 (Value.ref.inj q)) (by decide) (by decide) k) ?_
      refine Goes.step (B := T5.setTop (mkF m 19 #[.val (.ref a1)] [(.int (0 : Int32))])) (fun _ k => XS.iconst X5.here hx rfl (hb hby d1_18) k) ?_
      exact Goes.retN X5 hx e5 (t := .boolean) Bd.returns (by simp) hlk (hb hby d1_19) (by decide) (by decide) (⟨(by unfold own_rel; rw [if_neg hc4_2, if_neg hc11_5]; try rfl), N0, rfl⟩)
theorem d2_0 : decode prog_37_method_5_code 0 = .ok (.aload_n 0, 1) := by decide +kernel
theorem d2_1 : decode prog_37_method_5_code 1 = .ok (.getfield 35, 3) := by decide +kernel
theorem d2_4 : decode prog_37_method_5_code 4 = .ok (.areturn, 1) := by decide +kernel
theorem ef_rmsN (m : MethodId) (x0 : Addr) : entryFrame m #[(.ref x0)] 1 = mkF m 0 #[.val (.ref x0)] [] := by first | (simp [entryFrame, mkF, argsToLocals, Value.category]; done) | rfl
def QsN (Z : State) (a1 : Addr) (h0 : Heap) (n0 : Nat) (v : Option Value) (h : Heap) (L : List Loc) : Prop := v = some .null ∧ Fr n0 L ∧ h = h0
set_option maxRecDepth 65536 in
set_option maxHeartbeats 40000000 in
theorem rmsN (l : Launch) (Z : State) (a0 : Array Value) (hw : ∀ d ∈ tables_1, d.before a0 Z = true) (ws : List Jvm.Cond) (a1 : Addr) (h0 : Heap) (n0 : Nat) (O0 : Old Z n0 h0) (Fs : Fld Z h0 a1 "com/example/roundkeeper/roundkeeper/rulesets/sealedorders/Weapon$Loading" "spent" "Ljava/lang/String;" .null) :
    MetFree l (⟨"com/example/roundkeeper/roundkeeper/rulesets/sealedorders/Weapon$Loading", "spent", "()Ljava/lang/String;"⟩ : MethodName) (head1 (Jvm.Cond.code (⟨"com/example/roundkeeper/roundkeeper/rulesets/sealedorders/Weapon$Loading", "spent", "()Ljava/lang/String;"⟩ : MethodName) prog_37_method_5_code 1 (some (.object "java/lang/String")) :: ws) ({ frames := 0, cells := 0, slots := 0, locals := 0 } : Room)) (fun a U => a = #[(.ref a1)] ∧ Z.Warmed39 U.vm ∧ U.heap = h0) (fun _ _ _ _ _ => True) (fun _ U o U' => ∃ v L, o = .returned v ∧ QsN Z a1 h0 n0 v U'.heap L ∧ FrameEnd U o U' L ({ frames := 0, cells := 0, slots := 0, locals := 0 } : Room).cells ({ frames := 0, cells := 0, slots := 0, locals := 0 } : Room).slots) := by
  refine MetFree.of_bodySF (plainFor_of_name pn_Weapon_Loading) hisR ?_
  intro p e s m args below meth c s₁ Bd hml0 hP hK
  obtain ⟨rfl, hZ, hh⟩ := hP
  have hx := Bd.exec
  have hby := Bd.bytes
  have hlk : meth.locks = false := BodyLoose.notSynchronized Bd
  have hml : c.maxLocals = 1 := hml0
  have hown : s.vm.findClass "com/example/roundkeeper/roundkeeper/rulesets/sealedorders/Weapon$Loading" = some m.cls := findClass_of_methodNamed Bd.named
  have hnm := (name_of_methodNamed Bd.named Bd.method).1
  have X0 : Stand p l e ({ frames := 0, cells := 0, slots := 0, locals := 0 } : Room) s m #[(.ref a1)] below meth c s₁ [] 0 0 := Stand.of_body Bd
  have e0 : s₁.heap = h0 := by rw [← hh, Bd.state]; rfl
  have N0 := Fr.nil n0
  show Goes p e below s (QsN Z a1 h0 n0) ({ frames := 0, cells := 0, slots := 0, locals := 0 } : Room).cells ({ frames := 0, cells := 0, slots := 0, locals := 0 } : Room).slots (s₁.setTop (entryFrame m #[(.ref a1)] 1))
  refine Goes.enter (g' := (mkF m 0 #[.val (.ref a1)] [])) (ef_rmsN m a1) ?_
  refine Goes.step (B := s₁.setTop (mkF m 1 #[.val (.ref a1)] [(.ref a1)])) (fun _ k => XS.aloadN X0.here hx rfl (hb hby d2_0) rfl rfl k) ?_
  obtain ⟨T1, X1, e1, st1⟩ := getF X0 hx hZ hown (host := "") (Or.inl (hw _ (List.mem_of_getElem? (i := 25) rfl))) Via.refl e0 Fs (g := (mkF m 1 #[.val (.ref a1)] [(.ref a1)])) rfl rfl (hb hby d2_1)
  refine Goes.step (B := T1.setTop (mkF m 4 #[.val (.ref a1)] [.null])) st1 ?_
  exact Goes.retA X1 hx e1 Bd.returns rfl rfl hlk (hb hby d2_4) (by decide) (by decide) (⟨rfl, N0, rfl⟩)
theorem ef_rmsR (m : MethodId) (x0 : Addr) : entryFrame m #[(.ref x0)] 1 = mkF m 0 #[.val (.ref x0)] [] := by first | (simp [entryFrame, mkF, argsToLocals, Value.category]; done) | rfl
def QsR (Z : State) (a1 : Addr) (r : Addr) (h0 : Heap) (n0 : Nat) (v : Option Value) (h : Heap) (L : List Loc) : Prop := v = some (.ref r) ∧ Fr n0 L ∧ h = h0
set_option maxRecDepth 65536 in
set_option maxHeartbeats 40000000 in
theorem rmsR (l : Launch) (Z : State) (a0 : Array Value) (hw : ∀ d ∈ tables_1, d.before a0 Z = true) (ws : List Jvm.Cond) (a1 : Addr) (r : Addr) (h0 : Heap) (n0 : Nat) (O0 : Old Z n0 h0) (Fs : Fld Z h0 a1 "com/example/roundkeeper/roundkeeper/rulesets/sealedorders/Weapon$Loading" "spent" "Ljava/lang/String;" (.ref r)) :
    MetFree l (⟨"com/example/roundkeeper/roundkeeper/rulesets/sealedorders/Weapon$Loading", "spent", "()Ljava/lang/String;"⟩ : MethodName) (head1 (Jvm.Cond.code (⟨"com/example/roundkeeper/roundkeeper/rulesets/sealedorders/Weapon$Loading", "spent", "()Ljava/lang/String;"⟩ : MethodName) prog_37_method_5_code 1 (some (.object "java/lang/String")) :: ws) ({ frames := 0, cells := 0, slots := 0, locals := 0 } : Room)) (fun a U => a = #[(.ref a1)] ∧ Z.Warmed39 U.vm ∧ U.heap = h0) (fun _ _ _ _ _ => True) (fun _ U o U' => ∃ v L, o = .returned v ∧ QsR Z a1 r h0 n0 v U'.heap L ∧ FrameEnd U o U' L ({ frames := 0, cells := 0, slots := 0, locals := 0 } : Room).cells ({ frames := 0, cells := 0, slots := 0, locals := 0 } : Room).slots) := by
  refine MetFree.of_bodySF (plainFor_of_name pn_Weapon_Loading) hisR ?_
  intro p e s m args below meth c s₁ Bd hml0 hP hK
  obtain ⟨rfl, hZ, hh⟩ := hP
  have hx := Bd.exec
  have hby := Bd.bytes
  have hlk : meth.locks = false := BodyLoose.notSynchronized Bd
  have hml : c.maxLocals = 1 := hml0
  have hown : s.vm.findClass "com/example/roundkeeper/roundkeeper/rulesets/sealedorders/Weapon$Loading" = some m.cls := findClass_of_methodNamed Bd.named
  have hnm := (name_of_methodNamed Bd.named Bd.method).1
  have X0 : Stand p l e ({ frames := 0, cells := 0, slots := 0, locals := 0 } : Room) s m #[(.ref a1)] below meth c s₁ [] 0 0 := Stand.of_body Bd
  have e0 : s₁.heap = h0 := by rw [← hh, Bd.state]; rfl
  have N0 := Fr.nil n0
  show Goes p e below s (QsR Z a1 r h0 n0) ({ frames := 0, cells := 0, slots := 0, locals := 0 } : Room).cells ({ frames := 0, cells := 0, slots := 0, locals := 0 } : Room).slots (s₁.setTop (entryFrame m #[(.ref a1)] 1))
  refine Goes.enter (g' := (mkF m 0 #[.val (.ref a1)] [])) (ef_rmsR m a1) ?_
  refine Goes.step (B := s₁.setTop (mkF m 1 #[.val (.ref a1)] [(.ref a1)])) (fun _ k => XS.aloadN X0.here hx rfl (hb hby d2_0) rfl rfl k) ?_
  obtain ⟨T1, X1, e1, st1⟩ := getF X0 hx hZ hown (host := "") (Or.inl (hw _ (List.mem_of_getElem? (i := 25) rfl))) Via.refl e0 Fs (g := (mkF m 1 #[.val (.ref a1)] [(.ref a1)])) rfl rfl (hb hby d2_1)
  refine Goes.step (B := T1.setTop (mkF m 4 #[.val (.ref a1)] [(.ref r)])) st1 ?_
  exact Goes.retA X1 hx e1 Bd.returns rfl rfl hlk (hb hby d2_4) (by decide) (by decide) (⟨rfl, N0, rfl⟩)
theorem d4_0 : decode jdk_43_method_13_code 0 = .ok (.aload_n 0, 1) := by decide +kernel
theorem d4_1 : decode jdk_43_method_13_code 1 = .ok (.arraylength, 1) := by decide +kernel
theorem d4_2 : decode jdk_43_method_13_code 2 = .ok (.aload_n 1, 1) := by decide +kernel
theorem d4_3 : decode jdk_43_method_13_code 3 = .ok (.arraylength, 1) := by decide +kernel
theorem d4_4 : decode jdk_43_method_13_code 4 = .ok (.if_icmp .ne 30, 3) := by decide +kernel
theorem d4_7 : decode jdk_43_method_13_code 7 = .ok (.iconst 0, 1) := by decide +kernel
theorem d4_8 : decode jdk_43_method_13_code 8 = .ok (.istore_n 2, 1) := by decide +kernel
theorem d4_9 : decode jdk_43_method_13_code 9 = .ok (.iload_n 2, 1) := by decide +kernel
theorem d4_10 : decode jdk_43_method_13_code 10 = .ok (.aload_n 0, 1) := by decide +kernel
theorem d4_11 : decode jdk_43_method_13_code 11 = .ok (.arraylength, 1) := by decide +kernel
theorem d4_12 : decode jdk_43_method_13_code 12 = .ok (.if_icmp .ge 20, 3) := by decide +kernel
theorem d4_15 : decode jdk_43_method_13_code 15 = .ok (.aload_n 0, 1) := by decide +kernel
theorem d4_16 : decode jdk_43_method_13_code 16 = .ok (.iload_n 2, 1) := by decide +kernel
theorem d4_17 : decode jdk_43_method_13_code 17 = .ok (.baload, 1) := by decide +kernel
theorem d4_18 : decode jdk_43_method_13_code 18 = .ok (.aload_n 1, 1) := by decide +kernel
theorem d4_19 : decode jdk_43_method_13_code 19 = .ok (.iload_n 2, 1) := by decide +kernel
theorem d4_20 : decode jdk_43_method_13_code 20 = .ok (.baload, 1) := by decide +kernel
theorem d4_21 : decode jdk_43_method_13_code 21 = .ok (.if_icmp .eq 5, 3) := by decide +kernel
theorem d4_26 : decode jdk_43_method_13_code 26 = .ok (.iinc 2 1, 3) := by decide +kernel
theorem d4_29 : decode jdk_43_method_13_code 29 = .ok (.goto (-20), 3) := by decide +kernel
theorem d4_32 : decode jdk_43_method_13_code 32 = .ok (.iconst 1, 1) := by decide +kernel
theorem d4_33 : decode jdk_43_method_13_code 33 = .ok (.ireturn, 1) := by decide +kernel
theorem pn_StringLatin1 : plainName "java/lang/StringLatin1" = true := by first | (simp [plainName, overriddenIn]; done) | decide +kernel
theorem ef_rmL1 (m : MethodId) (x0 : Addr) (x1 : Addr) : entryFrame m #[(.ref x0), (.ref x1)] 3 = mkF m 0 #[.val (.ref x0), .val (.ref x1), .unset] [] := by first | (simp [entryFrame, mkF, argsToLocals, Value.category]; done) | rfl
def QL1 (Z : State) (b1 : Addr) (b2 : Addr) (k1 : ClassId) (k2 : ClassId) (h0 : Heap) (n0 : Nat) (v : Option Value) (h : Heap) (L : List Loc) : Prop := v = some (.int (1 : Int32)) ∧ Fr n0 L ∧ h = h0
set_option maxRecDepth 65536 in
set_option maxHeartbeats 40000000 in
theorem rmL1 (l : Launch) (Z : State) (a0 : Array Value) (hw : ∀ d ∈ tables_1, d.before a0 Z = true) (ws : List Jvm.Cond) (b1 : Addr) (b2 : Addr) (k1 : ClassId) (k2 : ClassId) (h0 : Heap) (n0 : Nat) (O0 : Old Z n0 h0) (V1 : Arv Z h0 b1 k1 .byte (10 : Int32) [.int (110 : Int32), .int (111 : Int32), .int (116 : Int32), .int (32 : Int32), .int (108 : Int32), .int (111 : Int32), .int (97 : Int32), .int (100 : Int32), .int (101 : Int32), .int (100 : Int32)] (.int (0 : Int32))) (V2 : Arv Z h0 b2 k2 .byte (10 : Int32) [.int (110 : Int32), .int (111 : Int32), .int (116 : Int32), .int (32 : Int32), .int (108 : Int32), .int (111 : Int32), .int (97 : Int32), .int (100 : Int32), .int (101 : Int32), .int (100 : Int32)] (.int (0 : Int32))) :
    MetFree l (⟨"java/lang/StringLatin1", "equals", "([B[B)Z"⟩ : MethodName) (head1 (Jvm.Cond.code (⟨"java/lang/StringLatin1", "equals", "([B[B)Z"⟩ : MethodName) jdk_43_method_13_code 3 (some .boolean) :: ws) ({ frames := 0, cells := 0, slots := 0, locals := 0 } : Room)) (fun a U => a = #[(.ref b1), (.ref b2)] ∧ Z.Warmed39 U.vm ∧ U.heap = h0) (fun _ _ _ _ _ => True) (fun _ U o U' => ∃ v L, o = .returned v ∧ QL1 Z b1 b2 k1 k2 h0 n0 v U'.heap L ∧ FrameEnd U o U' L ({ frames := 0, cells := 0, slots := 0, locals := 0 } : Room).cells ({ frames := 0, cells := 0, slots := 0, locals := 0 } : Room).slots) := by
  refine MetFree.of_bodySF (plainFor_of_name pn_StringLatin1) hisR ?_
  intro p e s m args below meth c s₁ Bd hml0 hP hK
  obtain ⟨rfl, hZ, hh⟩ := hP
  have hx := Bd.exec
  have hby := Bd.bytes
  have hlk : meth.locks = false := BodyLoose.notSynchronized Bd
  have hml : c.maxLocals = 3 := hml0
  have hown : s.vm.findClass "java/lang/StringLatin1" = some m.cls := findClass_of_methodNamed Bd.named
  have hnm := (name_of_methodNamed Bd.named Bd.method).1
  have X0 : Stand p l e ({ frames := 0, cells := 0, slots := 0, locals := 0 } : Room) s m #[(.ref b1), (.ref b2)] below meth c s₁ [] 0 0 := Stand.of_body Bd
  have e0 : s₁.heap = h0 := by rw [← hh, Bd.state]; rfl
  have N0 := Fr.nil n0
  show Goes p e below s (QL1 Z b1 b2 k1 k2 h0 n0) ({ frames := 0, cells := 0, slots := 0, locals := 0 } : Room).cells ({ frames := 0, cells := 0, slots := 0, locals := 0 } : Room).slots (s₁.setTop (entryFrame m #[(.ref b1), (.ref b2)] 3))
  refine Goes.enter (g' := (mkF m 0 #[.val (.ref b1), .val (.ref b2), .unset] [])) (ef_rmL1 m b1 b2) ?_
  refine Goes.step (B := s₁.setTop (mkF m 1 #[.val (.ref b1), .val (.ref b2), .unset] [(.ref b1)])) (fun _ k => XS.aloadN X0.here hx rfl (hb hby d4_0) rfl rfl k) ?_
  obtain ⟨c1, Ar1, -, Sz1, Nn1, -, -⟩ := id V1
  have len1 := X0.arraylength hx (by rw [e0]; exact Ar1.1) (State.isArrayOf_alike hZ.alike Ar1.2.1) (g := (mkF m 1 #[.val (.ref b1), .val (.ref b2), .unset] [(.ref b1)])) rfl rfl (hb hby d4_1)
  rw [len_of Sz1 Nn1] at len1
  refine Goes.step (B := s₁.setTop (mkF m 2 #[.val (.ref b1), .val (.ref b2), .unset] [(.int (10 : Int32))])) len1 ?_
  refine Goes.step (B := s₁.setTop (mkF m 3 #[.val (.ref b1), .val (.ref b2), .unset] [(.ref b2), (.int (10 : Int32))])) (fun _ k => XS.aloadN X0.here hx rfl (hb hby d4_2) rfl rfl k) ?_
  obtain ⟨c2, Ar2, -, Sz2, Nn2, -, -⟩ := id V2
  have len2 := X0.arraylength hx (by rw [e0]; exact Ar2.1) (State.isArrayOf_alike hZ.alike Ar2.2.1) (g := (mkF m 3 #[.val (.ref b1), .val (.ref b2), .unset] [(.ref b2), (.int (10 : Int32))])) rfl rfl (hb hby d4_3)
  rw [len_of Sz2 Nn2] at len2
  refine Goes.step (B := s₁.setTop (mkF m 4 #[.val (.ref b1), .val (.ref b2), .unset] [(.int (10 : Int32)), (.int (10 : Int32))])) len2 ?_
  refine Goes.step (B := s₁.setTop (mkF m 7 #[.val (.ref b1), .val (.ref b2), .unset] [])) (fun _ k => XS.icmpNo X0.here hx rfl (hb hby d4_4) rfl (teq (by decide)).2 k) ?_
  refine Goes.step (B := s₁.setTop (mkF m 8 #[.val (.ref b1), .val (.ref b2), .unset] [(.int (0 : Int32))])) (fun _ k => XS.iconst X0.here hx rfl (hb hby d4_7) k) ?_
  refine Goes.step (B := s₁.setTop (mkF m 9 #[.val (.ref b1), .val (.ref b2), .val (.int (0 : Int32))] [])) (fun _ k => XS.istoreN X0.here hx rfl (hb hby d4_8) rfl (l' := #[.val (.ref b1), .val (.ref b2), .val (.int (0 : Int32))]) rfl k) ?_
  refine Goes.step (B := s₁.setTop (mkF m 10 #[.val (.ref b1), .val (.ref b2), .val (.int (0 : Int32))] [(.int (0 : Int32))])) (fun _ k => XS.iloadN X0.here hx rfl (hb hby d4_9) rfl k) ?_
  refine Goes.step (B := s₁.setTop (mkF m 11 #[.val (.ref b1), .val (.ref b2), .val (.int (0 : Int32))] [(.ref b1), (.int (0 : Int32))])) (fun _ k => XS.aloadN X0.here hx rfl (hb hby d4_10) rfl rfl k) ?_
  obtain ⟨c3, Ar3, -, Sz3, Nn3, -, -⟩ := id V1
  have len3 := X0.arraylength hx (by rw [e0]; exact Ar3.1) (State.isArrayOf_alike hZ.alike Ar3.2.1) (g := (mkF m 11 #[.val (.ref b1), .val (.ref b2), .val (.int (0 : Int32))] [(.ref b1), (.int (0 : Int32))])) rfl rfl (hb hby d4_11)
  rw [len_of Sz3 Nn3] at len3
  refine Goes.step (B := s₁.setTop (mkF m 12 #[.val (.ref b1), .val (.ref b2), .val (.int (0 : Int32))] [(.int (10 : Int32)), (.int (0 : Int32))])) len3 ?_
  refine Goes.step (B := s₁.setTop (mkF m 15 #[.val (.ref b1), .val (.ref b2), .val (.int (0 : Int32))] [])) (fun _ k => XS.icmpNo X0.here hx rfl (hb hby d4_12) rfl (tlt (by decide)).2.1 k) ?_
  refine Goes.step (B := s₁.setTop (mkF m 16 #[.val (.ref b1), .val (.ref b2), .val (.int (0 : Int32))] [(.ref b1)])) (fun _ k => XS.aloadN X0.here hx rfl (hb hby d4_15) rfl rfl k) ?_
  refine Goes.step (B := s₁.setTop (mkF m 17 #[.val (.ref b1), .val (.ref b2), .val (.int (0 : Int32))] [(.int (0 : Int32)), (.ref b1)])) (fun _ k => XS.iloadN X0.here hx rfl (hb hby d4_16) rfl k) ?_
  obtain ⟨c4, Ar4, -, Sz4, Nn4, Hs4, -⟩ := id V1
  have hin4 : ¬ ((0 : Int32) < 0 ∨ c4.slots.size ≤ ((0 : Int32)).toNatClampNeg) := inb_of Sz4 ⟨by decide, by decide⟩
  refine Goes.step (B := s₁.setTop (mkF m 18 #[.val (.ref b1), .val (.ref b2), .val (.int (0 : Int32))] [(.int (110 : Int32))])) (X0.baloadBytes hx (j := (0 : Int32)) (v := (.int (110 : Int32))) (by rw [e0]; exact Ar4.1) (State.isArrayOf_alike hZ.alike Ar4.2.1) Ar4.2.2 hin4 (Has.at Hs4 hin4 rfl) (g := (mkF m 17 #[.val (.ref b1), .val (.ref b2), .val (.int (0 : Int32))] [(.int (0 : Int32)), (.ref b1)])) rfl rfl (hb hby d4_17)) ?_
  refine Goes.step (B := s₁.setTop (mkF m 19 #[.val (.ref b1), .val (.ref b2), .val (.int (0 : Int32))] [(.ref b2), (.int (110 : Int32))])) (fun _ k => XS.aloadN X0.here hx rfl (hb hby d4_18) rfl rfl k) ?_
  refine Goes.step (B := s₁.setTop (mkF m 20 #[.val (.ref b1), .val (.ref b2), .val (.int (0 : Int32))] [(.int (0 : Int32)), (.ref b2), (.int (110 : Int32))])) (fun _ k => XS.iloadN X0.here hx rfl (hb hby d4_19) rfl k) ?_
  obtain ⟨c5, Ar5, -, Sz5, Nn5, Hs5, -⟩ := id V2
  have hin5 : ¬ ((0 : Int32) < 0 ∨ c5.slots.size ≤ ((0 : Int32)).toNatClampNeg) := inb_of Sz5 ⟨by decide, by decide⟩
  refine Goes.step (B := s₁.setTop (mkF m 21 #[.val (.ref b1), .val (.ref b2), .val (.int (0 : Int32))] [(.int (110 : Int32)), (.int (110 : Int32))])) (X0.baloadBytes hx (j := (0 : Int32)) (v := (.int (110 : Int32))) (by rw [e0]; exact Ar5.1) (State.isArrayOf_alike hZ.alike Ar5.2.1) Ar5.2.2 hin5 (Has.at Hs5 hin5 rfl) (g := (mkF m 20 #[.val (.ref b1), .val (.ref b2), .val (.int (0 : Int32))] [(.int (0 : Int32)), (.ref b2), (.int (110 : Int32))])) rfl rfl (hb hby d4_20)) ?_
  refine Goes.step (B := s₁.setTop (mkF m 26 #[.val (.ref b1), .val (.ref b2), .val (.int (0 : Int32))] [])) (fun _ k => XS.icmpYes X0.here hx rfl (pc0 := 21) (pc' := 26) rfl (hb hby d4_21) rfl (teq (by decide)).1 (by decide) (by decide) k) ?_
  refine Goes.step (B := s₁.setTop (mkF m 29 #[.val (.ref b1), .val (.ref b2), .val (.int (1 : Int32))] [])) (fun _ k => XS.iinc X0.here hx rfl (hb hby d4_26) rfl (l' := #[.val (.ref b1), .val (.ref b2), .val (.int (1 : Int32))]) rfl k) ?_
  refine Goes.step (B := s₁.setTop (mkF m 9 #[.val (.ref b1), .val (.ref b2), .val (.int (1 : Int32))] [])) (fun _ k => XS.goto X0.here hx rfl (pc0 := 29) (pc' := 9) rfl (hb hby d4_29) (by decide) (by decide) k) ?_
  refine Goes.step (B := s₁.setTop (mkF m 10 #[.val (.ref b1), .val (.ref b2), .val (.int (1 : Int32))] [(.int (1 : Int32))])) (fun _ k => XS.iloadN X0.here hx rfl (hb hby d4_9) rfl k) ?_
  refine Goes.step (B := s₁.setTop (mkF m 11 #[.val (.ref b1), .val (.ref b2), .val (.int (1 : Int32))] [(.ref b1), (.int (1 : Int32))])) (fun _ k => XS.aloadN X0.here hx rfl (hb hby d4_10) rfl rfl k) ?_
  obtain ⟨c6, Ar6, -, Sz6, Nn6, -, -⟩ := id V1
  have len6 := X0.arraylength hx (by rw [e0]; exact Ar6.1) (State.isArrayOf_alike hZ.alike Ar6.2.1) (g := (mkF m 11 #[.val (.ref b1), .val (.ref b2), .val (.int (1 : Int32))] [(.ref b1), (.int (1 : Int32))])) rfl rfl (hb hby d4_11)
  rw [len_of Sz6 Nn6] at len6
  refine Goes.step (B := s₁.setTop (mkF m 12 #[.val (.ref b1), .val (.ref b2), .val (.int (1 : Int32))] [(.int (10 : Int32)), (.int (1 : Int32))])) len6 ?_
  refine Goes.step (B := s₁.setTop (mkF m 15 #[.val (.ref b1), .val (.ref b2), .val (.int (1 : Int32))] [])) (fun _ k => XS.icmpNo X0.here hx rfl (hb hby d4_12) rfl (tlt (by decide)).2.1 k) ?_
  refine Goes.step (B := s₁.setTop (mkF m 16 #[.val (.ref b1), .val (.ref b2), .val (.int (1 : Int32))] [(.ref b1)])) (fun _ k => XS.aloadN X0.here hx rfl (hb hby d4_15) rfl rfl k) ?_
  refine Goes.step (B := s₁.setTop (mkF m 17 #[.val (.ref b1), .val (.ref b2), .val (.int (1 : Int32))] [(.int (1 : Int32)), (.ref b1)])) (fun _ k => XS.iloadN X0.here hx rfl (hb hby d4_16) rfl k) ?_
  obtain ⟨c7, Ar7, -, Sz7, Nn7, Hs7, -⟩ := id V1
  have hin7 : ¬ ((1 : Int32) < 0 ∨ c7.slots.size ≤ ((1 : Int32)).toNatClampNeg) := inb_of Sz7 ⟨by decide, by decide⟩
  refine Goes.step (B := s₁.setTop (mkF m 18 #[.val (.ref b1), .val (.ref b2), .val (.int (1 : Int32))] [(.int (111 : Int32))])) (X0.baloadBytes hx (j := (1 : Int32)) (v := (.int (111 : Int32))) (by rw [e0]; exact Ar7.1) (State.isArrayOf_alike hZ.alike Ar7.2.1) Ar7.2.2 hin7 (Has.at Hs7 hin7 rfl) (g := (mkF m 17 #[.val (.ref b1), .val (.ref b2), .val (.int (1 : Int32))] [(.int (1 : Int32)), (.ref b1)])) rfl rfl (hb hby d4_17)) ?_
  refine Goes.step (B := s₁.setTop (mkF m 19 #[.val (.ref b1), .val (.ref b2), .val (.int (1 : Int32))] [(.ref b2), (.int (111 : Int32))])) (fun _ k => XS.aloadN X0.here hx rfl (hb hby d4_18) rfl rfl k) ?_
  refine Goes.step (B := s₁.setTop (mkF m 20 #[.val (.ref b1), .val (.ref b2), .val (.int (1 : Int32))] [(.int (1 : Int32)), (.ref b2), (.int (111 : Int32))])) (fun _ k => XS.iloadN X0.here hx rfl (hb hby d4_19) rfl k) ?_
  obtain ⟨c8, Ar8, -, Sz8, Nn8, Hs8, -⟩ := id V2
  have hin8 : ¬ ((1 : Int32) < 0 ∨ c8.slots.size ≤ ((1 : Int32)).toNatClampNeg) := inb_of Sz8 ⟨by decide, by decide⟩
  refine Goes.step (B := s₁.setTop (mkF m 21 #[.val (.ref b1), .val (.ref b2), .val (.int (1 : Int32))] [(.int (111 : Int32)), (.int (111 : Int32))])) (X0.baloadBytes hx (j := (1 : Int32)) (v := (.int (111 : Int32))) (by rw [e0]; exact Ar8.1) (State.isArrayOf_alike hZ.alike Ar8.2.1) Ar8.2.2 hin8 (Has.at Hs8 hin8 rfl) (g := (mkF m 20 #[.val (.ref b1), .val (.ref b2), .val (.int (1 : Int32))] [(.int (1 : Int32)), (.ref b2), (.int (111 : Int32))])) rfl rfl (hb hby d4_20)) ?_
  refine Goes.step (B := s₁.setTop (mkF m 26 #[.val (.ref b1), .val (.ref b2), .val (.int (1 : Int32))] [])) (fun _ k => XS.icmpYes X0.here hx rfl (pc0 := 21) (pc' := 26) rfl (hb hby d4_21) rfl (teq (by decide)).1 (by decide) (by decide) k) ?_
  refine Goes.step (B := s₁.setTop (mkF m 29 #[.val (.ref b1), .val (.ref b2), .val (.int (2 : Int32))] [])) (fun _ k => XS.iinc X0.here hx rfl (hb hby d4_26) rfl (l' := #[.val (.ref b1), .val (.ref b2), .val (.int (2 : Int32))]) rfl k) ?_
  refine Goes.step (B := s₁.setTop (mkF m 9 #[.val (.ref b1), .val (.ref b2), .val (.int (2 : Int32))] [])) (fun _ k => XS.goto X0.here hx rfl (pc0 := 29) (pc' := 9) rfl (hb hby d4_29) (by decide) (by decide) k) ?_
  refine Goes.step (B := s₁.setTop (mkF m 10 #[.val (.ref b1), .val (.ref b2), .val (.int (2 : Int32))] [(.int (2 : Int32))])) (fun _ k => XS.iloadN X0.here hx rfl (hb hby d4_9) rfl k) ?_
  refine Goes.step (B := s₁.setTop (mkF m 11 #[.val (.ref b1), .val (.ref b2), .val (.int (2 : Int32))] [(.ref b1), (.int (2 : Int32))])) (fun _ k => XS.aloadN X0.here hx rfl (hb hby d4_10) rfl rfl k) ?_
  obtain ⟨c9, Ar9, -, Sz9, Nn9, -, -⟩ := id V1
  have len9 := X0.arraylength hx (by rw [e0]; exact Ar9.1) (State.isArrayOf_alike hZ.alike Ar9.2.1) (g := (mkF m 11 #[.val (.ref b1), .val (.ref b2), .val (.int (2 : Int32))] [(.ref b1), (.int (2 : Int32))])) rfl rfl (hb hby d4_11)
  rw [len_of Sz9 Nn9] at len9
  refine Goes.step (B := s₁.setTop (mkF m 12 #[.val (.ref b1), .val (.ref b2), .val (.int (2 : Int32))] [(.int (10 : Int32)), (.int (2 : Int32))])) len9 ?_
  refine Goes.step (B := s₁.setTop (mkF m 15 #[.val (.ref b1), .val (.ref b2), .val (.int (2 : Int32))] [])) (fun _ k => XS.icmpNo X0.here hx rfl (hb hby d4_12) rfl (tlt (by decide)).2.1 k) ?_
  refine Goes.step (B := s₁.setTop (mkF m 16 #[.val (.ref b1), .val (.ref b2), .val (.int (2 : Int32))] [(.ref b1)])) (fun _ k => XS.aloadN X0.here hx rfl (hb hby d4_15) rfl rfl k) ?_
  refine Goes.step (B := s₁.setTop (mkF m 17 #[.val (.ref b1), .val (.ref b2), .val (.int (2 : Int32))] [(.int (2 : Int32)), (.ref b1)])) (fun _ k => XS.iloadN X0.here hx rfl (hb hby d4_16) rfl k) ?_
  obtain ⟨c10, Ar10, -, Sz10, Nn10, Hs10, -⟩ := id V1
  have hin10 : ¬ ((2 : Int32) < 0 ∨ c10.slots.size ≤ ((2 : Int32)).toNatClampNeg) := inb_of Sz10 ⟨by decide, by decide⟩
  refine Goes.step (B := s₁.setTop (mkF m 18 #[.val (.ref b1), .val (.ref b2), .val (.int (2 : Int32))] [(.int (116 : Int32))])) (X0.baloadBytes hx (j := (2 : Int32)) (v := (.int (116 : Int32))) (by rw [e0]; exact Ar10.1) (State.isArrayOf_alike hZ.alike Ar10.2.1) Ar10.2.2 hin10 (Has.at Hs10 hin10 rfl) (g := (mkF m 17 #[.val (.ref b1), .val (.ref b2), .val (.int (2 : Int32))] [(.int (2 : Int32)), (.ref b1)])) rfl rfl (hb hby d4_17)) ?_
  refine Goes.step (B := s₁.setTop (mkF m 19 #[.val (.ref b1), .val (.ref b2), .val (.int (2 : Int32))] [(.ref b2), (.int (116 : Int32))])) (fun _ k => XS.aloadN X0.here hx rfl (hb hby d4_18) rfl rfl k) ?_
  refine Goes.step (B := s₁.setTop (mkF m 20 #[.val (.ref b1), .val (.ref b2), .val (.int (2 : Int32))] [(.int (2 : Int32)), (.ref b2), (.int (116 : Int32))])) (fun _ k => XS.iloadN X0.here hx rfl (hb hby d4_19) rfl k) ?_
  obtain ⟨c11, Ar11, -, Sz11, Nn11, Hs11, -⟩ := id V2
  have hin11 : ¬ ((2 : Int32) < 0 ∨ c11.slots.size ≤ ((2 : Int32)).toNatClampNeg) := inb_of Sz11 ⟨by decide, by decide⟩
  refine Goes.step (B := s₁.setTop (mkF m 21 #[.val (.ref b1), .val (.ref b2), .val (.int (2 : Int32))] [(.int (116 : Int32)), (.int (116 : Int32))])) (X0.baloadBytes hx (j := (2 : Int32)) (v := (.int (116 : Int32))) (by rw [e0]; exact Ar11.1) (State.isArrayOf_alike hZ.alike Ar11.2.1) Ar11.2.2 hin11 (Has.at Hs11 hin11 rfl) (g := (mkF m 20 #[.val (.ref b1), .val (.ref b2), .val (.int (2 : Int32))] [(.int (2 : Int32)), (.ref b2), (.int (116 : Int32))])) rfl rfl (hb hby d4_20)) ?_
  refine Goes.step (B := s₁.setTop (mkF m 26 #[.val (.ref b1), .val (.ref b2), .val (.int (2 : Int32))] [])) (fun _ k => XS.icmpYes X0.here hx rfl (pc0 := 21) (pc' := 26) rfl (hb hby d4_21) rfl (teq (by decide)).1 (by decide) (by decide) k) ?_
  refine Goes.step (B := s₁.setTop (mkF m 29 #[.val (.ref b1), .val (.ref b2), .val (.int (3 : Int32))] [])) (fun _ k => XS.iinc X0.here hx rfl (hb hby d4_26) rfl (l' := #[.val (.ref b1), .val (.ref b2), .val (.int (3 : Int32))]) rfl k) ?_
  refine Goes.step (B := s₁.setTop (mkF m 9 #[.val (.ref b1), .val (.ref b2), .val (.int (3 : Int32))] [])) (fun _ k => XS.goto X0.here hx rfl (pc0 := 29) (pc' := 9) rfl (hb hby d4_29) (by decide) (by decide) k) ?_
  refine Goes.step (B := s₁.setTop (mkF m 10 #[.val (.ref b1), .val (.ref b2), .val (.int (3 : Int32))] [(.int (3 : Int32))])) (fun _ k => XS.iloadN X0.here hx rfl (hb hby d4_9) rfl k) ?_
  refine Goes.step (B := s₁.setTop (mkF m 11 #[.val (.ref b1), .val (.ref b2), .val (.int (3 : Int32))] [(.ref b1), (.int (3 : Int32))])) (fun _ k => XS.aloadN X0.here hx rfl (hb hby d4_10) rfl rfl k) ?_
  obtain ⟨c12, Ar12, -, Sz12, Nn12, -, -⟩ := id V1
  have len12 := X0.arraylength hx (by rw [e0]; exact Ar12.1) (State.isArrayOf_alike hZ.alike Ar12.2.1) (g := (mkF m 11 #[.val (.ref b1), .val (.ref b2), .val (.int (3 : Int32))] [(.ref b1), (.int (3 : Int32))])) rfl rfl (hb hby d4_11)
  rw [len_of Sz12 Nn12] at len12
  refine Goes.step (B := s₁.setTop (mkF m 12 #[.val (.ref b1), .val (.ref b2), .val (.int (3 : Int32))] [(.int (10 : Int32)), (.int (3 : Int32))])) len12 ?_
  refine Goes.step (B := s₁.setTop (mkF m 15 #[.val (.ref b1), .val (.ref b2), .val (.int (3 : Int32))] [])) (fun _ k => XS.icmpNo X0.here hx rfl (hb hby d4_12) rfl (tlt (by decide)).2.1 k) ?_
  refine Goes.step (B := s₁.setTop (mkF m 16 #[.val (.ref b1), .val (.ref b2), .val (.int (3 : Int32))] [(.ref b1)])) (fun _ k => XS.aloadN X0.here hx rfl (hb hby d4_15) rfl rfl k) ?_
  refine Goes.step (B := s₁.setTop (mkF m 17 #[.val (.ref b1), .val (.ref b2), .val (.int (3 : Int32))] [(.int (3 : Int32)), (.ref b1)])) (fun _ k => XS.iloadN X0.here hx rfl (hb hby d4_16) rfl k) ?_
  obtain ⟨c13, Ar13, -, Sz13, Nn13, Hs13, -⟩ := id V1
  have hin13 : ¬ ((3 : Int32) < 0 ∨ c13.slots.size ≤ ((3 : Int32)).toNatClampNeg) := inb_of Sz13 ⟨by decide, by decide⟩
  refine Goes.step (B := s₁.setTop (mkF m 18 #[.val (.ref b1), .val (.ref b2), .val (.int (3 : Int32))] [(.int (32 : Int32))])) (X0.baloadBytes hx (j := (3 : Int32)) (v := (.int (32 : Int32))) (by rw [e0]; exact Ar13.1) (State.isArrayOf_alike hZ.alike Ar13.2.1) Ar13.2.2 hin13 (Has.at Hs13 hin13 rfl) (g := (mkF m 17 #[.val (.ref b1), .val (.ref b2), .val (.int (3 : Int32))] [(.int (3 : Int32)), (.ref b1)])) rfl rfl (hb hby d4_17)) ?_
  refine Goes.step (B := s₁.setTop (mkF m 19 #[.val (.ref b1), .val (.ref b2), .val (.int (3 : Int32))] [(.ref b2), (.int (32 : Int32))])) (fun _ k => XS.aloadN X0.here hx rfl (hb hby d4_18) rfl rfl k) ?_
  refine Goes.step (B := s₁.setTop (mkF m 20 #[.val (.ref b1), .val (.ref b2), .val (.int (3 : Int32))] [(.int (3 : Int32)), (.ref b2), (.int (32 : Int32))])) (fun _ k => XS.iloadN X0.here hx rfl (hb hby d4_19) rfl k) ?_
  obtain ⟨c14, Ar14, -, Sz14, Nn14, Hs14, -⟩ := id V2
  have hin14 : ¬ ((3 : Int32) < 0 ∨ c14.slots.size ≤ ((3 : Int32)).toNatClampNeg) := inb_of Sz14 ⟨by decide, by decide⟩
  refine Goes.step (B := s₁.setTop (mkF m 21 #[.val (.ref b1), .val (.ref b2), .val (.int (3 : Int32))] [(.int (32 : Int32)), (.int (32 : Int32))])) (X0.baloadBytes hx (j := (3 : Int32)) (v := (.int (32 : Int32))) (by rw [e0]; exact Ar14.1) (State.isArrayOf_alike hZ.alike Ar14.2.1) Ar14.2.2 hin14 (Has.at Hs14 hin14 rfl) (g := (mkF m 20 #[.val (.ref b1), .val (.ref b2), .val (.int (3 : Int32))] [(.int (3 : Int32)), (.ref b2), (.int (32 : Int32))])) rfl rfl (hb hby d4_20)) ?_
  refine Goes.step (B := s₁.setTop (mkF m 26 #[.val (.ref b1), .val (.ref b2), .val (.int (3 : Int32))] [])) (fun _ k => XS.icmpYes X0.here hx rfl (pc0 := 21) (pc' := 26) rfl (hb hby d4_21) rfl (teq (by decide)).1 (by decide) (by decide) k) ?_
  refine Goes.step (B := s₁.setTop (mkF m 29 #[.val (.ref b1), .val (.ref b2), .val (.int (4 : Int32))] [])) (fun _ k => XS.iinc X0.here hx rfl (hb hby d4_26) rfl (l' := #[.val (.ref b1), .val (.ref b2), .val (.int (4 : Int32))]) rfl k) ?_
  refine Goes.step (B := s₁.setTop (mkF m 9 #[.val (.ref b1), .val (.ref b2), .val (.int (4 : Int32))] [])) (fun _ k => XS.goto X0.here hx rfl (pc0 := 29) (pc' := 9) rfl (hb hby d4_29) (by decide) (by decide) k) ?_
  refine Goes.step (B := s₁.setTop (mkF m 10 #[.val (.ref b1), .val (.ref b2), .val (.int (4 : Int32))] [(.int (4 : Int32))])) (fun _ k => XS.iloadN X0.here hx rfl (hb hby d4_9) rfl k) ?_
  refine Goes.step (B := s₁.setTop (mkF m 11 #[.val (.ref b1), .val (.ref b2), .val (.int (4 : Int32))] [(.ref b1), (.int (4 : Int32))])) (fun _ k => XS.aloadN X0.here hx rfl (hb hby d4_10) rfl rfl k) ?_
  obtain ⟨c15, Ar15, -, Sz15, Nn15, -, -⟩ := id V1
  have len15 := X0.arraylength hx (by rw [e0]; exact Ar15.1) (State.isArrayOf_alike hZ.alike Ar15.2.1) (g := (mkF m 11 #[.val (.ref b1), .val (.ref b2), .val (.int (4 : Int32))] [(.ref b1), (.int (4 : Int32))])) rfl rfl (hb hby d4_11)
  rw [len_of Sz15 Nn15] at len15
  refine Goes.step (B := s₁.setTop (mkF m 12 #[.val (.ref b1), .val (.ref b2), .val (.int (4 : Int32))] [(.int (10 : Int32)), (.int (4 : Int32))])) len15 ?_
  refine Goes.step (B := s₁.setTop (mkF m 15 #[.val (.ref b1), .val (.ref b2), .val (.int (4 : Int32))] [])) (fun _ k => XS.icmpNo X0.here hx rfl (hb hby d4_12) rfl (tlt (by decide)).2.1 k) ?_
  refine Goes.step (B := s₁.setTop (mkF m 16 #[.val (.ref b1), .val (.ref b2), .val (.int (4 : Int32))] [(.ref b1)])) (fun _ k => XS.aloadN X0.here hx rfl (hb hby d4_15) rfl rfl k) ?_
  refine Goes.step (B := s₁.setTop (mkF m 17 #[.val (.ref b1), .val (.ref b2), .val (.int (4 : Int32))] [(.int (4 : Int32)), (.ref b1)])) (fun _ k => XS.iloadN X0.here hx rfl (hb hby d4_16) rfl k) ?_
  obtain ⟨c16, Ar16, -, Sz16, Nn16, Hs16, -⟩ := id V1
  have hin16 : ¬ ((4 : Int32) < 0 ∨ c16.slots.size ≤ ((4 : Int32)).toNatClampNeg) := inb_of Sz16 ⟨by decide, by decide⟩
  refine Goes.step (B := s₁.setTop (mkF m 18 #[.val (.ref b1), .val (.ref b2), .val (.int (4 : Int32))] [(.int (108 : Int32))])) (X0.baloadBytes hx (j := (4 : Int32)) (v := (.int (108 : Int32))) (by rw [e0]; exact Ar16.1) (State.isArrayOf_alike hZ.alike Ar16.2.1) Ar16.2.2 hin16 (Has.at Hs16 hin16 rfl) (g := (mkF m 17 #[.val (.ref b1), .val (.ref b2), .val (.int (4 : Int32))] [(.int (4 : Int32)), (.ref b1)])) rfl rfl (hb hby d4_17)) ?_
  refine Goes.step (B := s₁.setTop (mkF m 19 #[.val (.ref b1), .val (.ref b2), .val (.int (4 : Int32))] [(.ref b2), (.int (108 : Int32))])) (fun _ k => XS.aloadN X0.here hx rfl (hb hby d4_18) rfl rfl k) ?_
  refine Goes.step (B := s₁.setTop (mkF m 20 #[.val (.ref b1), .val (.ref b2), .val (.int (4 : Int32))] [(.int (4 : Int32)), (.ref b2), (.int (108 : Int32))])) (fun _ k => XS.iloadN X0.here hx rfl (hb hby d4_19) rfl k) ?_
  obtain ⟨c17, Ar17, -, Sz17, Nn17, Hs17, -⟩ := id V2
  have hin17 : ¬ ((4 : Int32) < 0 ∨ c17.slots.size ≤ ((4 : Int32)).toNatClampNeg) := inb_of Sz17 ⟨by decide, by decide⟩
  refine Goes.step (B := s₁.setTop (mkF m 21 #[.val (.ref b1), .val (.ref b2), .val (.int (4 : Int32))] [(.int (108 : Int32)), (.int (108 : Int32))])) (X0.baloadBytes hx (j := (4 : Int32)) (v := (.int (108 : Int32))) (by rw [e0]; exact Ar17.1) (State.isArrayOf_alike hZ.alike Ar17.2.1) Ar17.2.2 hin17 (Has.at Hs17 hin17 rfl) (g := (mkF m 20 #[.val (.ref b1), .val (.ref b2), .val (.int (4 : Int32))] [(.int (4 : Int32)), (.ref b2), (.int (108 : Int32))])) rfl rfl (hb hby d4_20)) ?_
  refine Goes.step (B := s₁.setTop (mkF m 26 #[.val (.ref b1), .val (.ref b2), .val (.int (4 : Int32))] [])) (fun _ k => XS.icmpYes X0.here hx rfl (pc0 := 21) (pc' := 26) rfl (hb hby d4_21) rfl (teq (by decide)).1 (by decide) (by decide) k) ?_
  refine Goes.step (B := s₁.setTop (mkF m 29 #[.val (.ref b1), .val (.ref b2), .val (.int (5 : Int32))] [])) (fun _ k => XS.iinc X0.here hx rfl (hb hby d4_26) rfl (l' := #[.val (.ref b1), .val (.ref b2), .val (.int (5 : Int32))]) rfl k) ?_
  refine Goes.step (B := s₁.setTop (mkF m 9 #[.val (.ref b1), .val (.ref b2), .val (.int (5 : Int32))] [])) (fun _ k => XS.goto X0.here hx rfl (pc0 := 29) (pc' := 9) rfl (hb hby d4_29) (by decide) (by decide) k) ?_
  refine Goes.step (B := s₁.setTop (mkF m 10 #[.val (.ref b1), .val (.ref b2), .val (.int (5 : Int32))] [(.int (5 : Int32))])) (fun _ k => XS.iloadN X0.here hx rfl (hb hby d4_9) rfl k) ?_
  refine Goes.step (B := s₁.setTop (mkF m 11 #[.val (.ref b1), .val (.ref b2), .val (.int (5 : Int32))] [(.ref b1), (.int (5 : Int32))])) (fun _ k => XS.aloadN X0.here hx rfl (hb hby d4_10) rfl rfl k) ?_
  obtain ⟨c18, Ar18, -, Sz18, Nn18, -, -⟩ := id V1
  have len18 := X0.arraylength hx (by rw [e0]; exact Ar18.1) (State.isArrayOf_alike hZ.alike Ar18.2.1) (g := (mkF m 11 #[.val (.ref b1), .val (.ref b2), .val (.int (5 : Int32))] [(.ref b1), (.int (5 : Int32))])) rfl rfl (hb hby d4_11)
  rw [len_of Sz18 Nn18] at len18
  refine Goes.step (B := s₁.setTop (mkF m 12 #[.val (.ref b1), .val (.ref b2), .val (.int (5 : Int32))] [(.int (10 : Int32)), (.int (5 : Int32))])) len18 ?_
  refine Goes.step (B := s₁.setTop (mkF m 15 #[.val (.ref b1), .val (.ref b2), .val (.int (5 : Int32))] [])) (fun _ k => XS.icmpNo X0.here hx rfl (hb hby d4_12) rfl (tlt (by decide)).2.1 k) ?_
  refine Goes.step (B := s₁.setTop (mkF m 16 #[.val (.ref b1), .val (.ref b2), .val (.int (5 : Int32))] [(.ref b1)])) (fun _ k => XS.aloadN X0.here hx rfl (hb hby d4_15) rfl rfl k) ?_
  refine Goes.step (B := s₁.setTop (mkF m 17 #[.val (.ref b1), .val (.ref b2), .val (.int (5 : Int32))] [(.int (5 : Int32)), (.ref b1)])) (fun _ k => XS.iloadN X0.here hx rfl (hb hby d4_16) rfl k) ?_
  obtain ⟨c19, Ar19, -, Sz19, Nn19, Hs19, -⟩ := id V1
  have hin19 : ¬ ((5 : Int32) < 0 ∨ c19.slots.size ≤ ((5 : Int32)).toNatClampNeg) := inb_of Sz19 ⟨by decide, by decide⟩
  refine Goes.step (B := s₁.setTop (mkF m 18 #[.val (.ref b1), .val (.ref b2), .val (.int (5 : Int32))] [(.int (111 : Int32))])) (X0.baloadBytes hx (j := (5 : Int32)) (v := (.int (111 : Int32))) (by rw [e0]; exact Ar19.1) (State.isArrayOf_alike hZ.alike Ar19.2.1) Ar19.2.2 hin19 (Has.at Hs19 hin19 rfl) (g := (mkF m 17 #[.val (.ref b1), .val (.ref b2), .val (.int (5 : Int32))] [(.int (5 : Int32)), (.ref b1)])) rfl rfl (hb hby d4_17)) ?_
  refine Goes.step (B := s₁.setTop (mkF m 19 #[.val (.ref b1), .val (.ref b2), .val (.int (5 : Int32))] [(.ref b2), (.int (111 : Int32))])) (fun _ k => XS.aloadN X0.here hx rfl (hb hby d4_18) rfl rfl k) ?_
  refine Goes.step (B := s₁.setTop (mkF m 20 #[.val (.ref b1), .val (.ref b2), .val (.int (5 : Int32))] [(.int (5 : Int32)), (.ref b2), (.int (111 : Int32))])) (fun _ k => XS.iloadN X0.here hx rfl (hb hby d4_19) rfl k) ?_
  obtain ⟨c20, Ar20, -, Sz20, Nn20, Hs20, -⟩ := id V2
  have hin20 : ¬ ((5 : Int32) < 0 ∨ c20.slots.size ≤ ((5 : Int32)).toNatClampNeg) := inb_of Sz20 ⟨by decide, by decide⟩
  refine Goes.step (B := s₁.setTop (mkF m 21 #[.val (.ref b1), .val (.ref b2), .val (.int (5 : Int32))] [(.int (111 : Int32)), (.int (111 : Int32))])) (X0.baloadBytes hx (j := (5 : Int32)) (v := (.int (111 : Int32))) (by rw [e0]; exact Ar20.1) (State.isArrayOf_alike hZ.alike Ar20.2.1) Ar20.2.2 hin20 (Has.at Hs20 hin20 rfl) (g := (mkF m 20 #[.val (.ref b1), .val (.ref b2), .val (.int (5 : Int32))] [(.int (5 : Int32)), (.ref b2), (.int (111 : Int32))])) rfl rfl (hb hby d4_20)) ?_
  refine Goes.step (B := s₁.setTop (mkF m 26 #[.val (.ref b1), .val (.ref b2), .val (.int (5 : Int32))] [])) (fun _ k => XS.icmpYes X0.here hx rfl (pc0 := 21) (pc' := 26) rfl (hb hby d4_21) rfl (teq (by decide)).1 (by decide) (by decide) k) ?_
  refine Goes.step (B := s₁.setTop (mkF m 29 #[.val (.ref b1), .val (.ref b2), .val (.int (6 : Int32))] [])) (fun _ k => XS.iinc X0.here hx rfl (hb hby d4_26) rfl (l' := #[.val (.ref b1), .val (.ref b2), .val (.int (6 : Int32))]) rfl k) ?_
  refine Goes.step (B := s₁.setTop (mkF m 9 #[.val (.ref b1), .val (.ref b2), .val (.int (6 : Int32))] [])) (fun _ k => XS.goto X0.here hx rfl (pc0 := 29) (pc' := 9) rfl (hb hby d4_29) (by decide) (by decide) k) ?_
  refine Goes.step (B := s₁.setTop (mkF m 10 #[.val (.ref b1), .val (.ref b2), .val (.int (6 : Int32))] [(.int (6 : Int32))])) (fun _ k => XS.iloadN X0.here hx rfl (hb hby d4_9) rfl k) ?_
  refine Goes.step (B := s₁.setTop (mkF m 11 #[.val (.ref b1), .val (.ref b2), .val (.int (6 : Int32))] [(.ref b1), (.int (6 : Int32))])) (fun _ k => XS.aloadN X0.here hx rfl (hb hby d4_10) rfl rfl k) ?_
  obtain ⟨c21, Ar21, -, Sz21, Nn21, -, -⟩ := id V1
  have len21 := X0.arraylength hx (by rw [e0]; exact Ar21.1) (State.isArrayOf_alike hZ.alike Ar21.2.1) (g := (mkF m 11 #[.val (.ref b1), .val (.ref b2), .val (.int (6 : Int32))] [(.ref b1), (.int (6 : Int32))])) rfl rfl (hb hby d4_11)
  rw [len_of Sz21 Nn21] at len21
  refine Goes.step (B := s₁.setTop (mkF m 12 #[.val (.ref b1), .val (.ref b2), .val (.int (6 : Int32))] [(.int (10 : Int32)), (.int (6 : Int32))])) len21 ?_
  refine Goes.step (B := s₁.setTop (mkF m 15 #[.val (.ref b1), .val (.ref b2), .val (.int (6 : Int32))] [])) (fun _ k => XS.icmpNo X0.here hx rfl (hb hby d4_12) rfl (tlt (by decide)).2.1 k) ?_
  refine Goes.step (B := s₁.setTop (mkF m 16 #[.val (.ref b1), .val (.ref b2), .val (.int (6 : Int32))] [(.ref b1)])) (fun _ k => XS.aloadN X0.here hx rfl (hb hby d4_15) rfl rfl k) ?_
  refine Goes.step (B := s₁.setTop (mkF m 17 #[.val (.ref b1), .val (.ref b2), .val (.int (6 : Int32))] [(.int (6 : Int32)), (.ref b1)])) (fun _ k => XS.iloadN X0.here hx rfl (hb hby d4_16) rfl k) ?_
  obtain ⟨c22, Ar22, -, Sz22, Nn22, Hs22, -⟩ := id V1
  have hin22 : ¬ ((6 : Int32) < 0 ∨ c22.slots.size ≤ ((6 : Int32)).toNatClampNeg) := inb_of Sz22 ⟨by decide, by decide⟩
  refine Goes.step (B := s₁.setTop (mkF m 18 #[.val (.ref b1), .val (.ref b2), .val (.int (6 : Int32))] [(.int (97 : Int32))])) (X0.baloadBytes hx (j := (6 : Int32)) (v := (.int (97 : Int32))) (by rw [e0]; exact Ar22.1) (State.isArrayOf_alike hZ.alike Ar22.2.1) Ar22.2.2 hin22 (Has.at Hs22 hin22 rfl) (g := (mkF m 17 #[.val (.ref b1), .val (.ref b2), .val (.int (6 : Int32))] [(.int (6 : Int32)), (.ref b1)])) rfl rfl (hb hby d4_17)) ?_
  refine Goes.step (B := s₁.setTop (mkF m 19 #[.val (.ref b1), .val (.ref b2), .val (.int (6 : Int32))] [(.ref b2), (.int (97 : Int32))])) (fun _ k => XS.aloadN X0.here hx rfl (hb hby d4_18) rfl rfl k) ?_
  refine Goes.step (B := s₁.setTop (mkF m 20 #[.val (.ref b1), .val (.ref b2), .val (.int (6 : Int32))] [(.int (6 : Int32)), (.ref b2), (.int (97 : Int32))])) (fun _ k => XS.iloadN X0.here hx rfl (hb hby d4_19) rfl k) ?_
  obtain ⟨c23, Ar23, -, Sz23, Nn23, Hs23, -⟩ := id V2
  have hin23 : ¬ ((6 : Int32) < 0 ∨ c23.slots.size ≤ ((6 : Int32)).toNatClampNeg) := inb_of Sz23 ⟨by decide, by decide⟩
  refine Goes.step (B := s₁.setTop (mkF m 21 #[.val (.ref b1), .val (.ref b2), .val (.int (6 : Int32))] [(.int (97 : Int32)), (.int (97 : Int32))])) (X0.baloadBytes hx (j := (6 : Int32)) (v := (.int (97 : Int32))) (by rw [e0]; exact Ar23.1) (State.isArrayOf_alike hZ.alike Ar23.2.1) Ar23.2.2 hin23 (Has.at Hs23 hin23 rfl) (g := (mkF m 20 #[.val (.ref b1), .val (.ref b2), .val (.int (6 : Int32))] [(.int (6 : Int32)), (.ref b2), (.int (97 : Int32))])) rfl rfl (hb hby d4_20)) ?_
  refine Goes.step (B := s₁.setTop (mkF m 26 #[.val (.ref b1), .val (.ref b2), .val (.int (6 : Int32))] [])) (fun _ k => XS.icmpYes X0.here hx rfl (pc0 := 21) (pc' := 26) rfl (hb hby d4_21) rfl (teq (by decide)).1 (by decide) (by decide) k) ?_
  refine Goes.step (B := s₁.setTop (mkF m 29 #[.val (.ref b1), .val (.ref b2), .val (.int (7 : Int32))] [])) (fun _ k => XS.iinc X0.here hx rfl (hb hby d4_26) rfl (l' := #[.val (.ref b1), .val (.ref b2), .val (.int (7 : Int32))]) rfl k) ?_
  refine Goes.step (B := s₁.setTop (mkF m 9 #[.val (.ref b1), .val (.ref b2), .val (.int (7 : Int32))] [])) (fun _ k => XS.goto X0.here hx rfl (pc0 := 29) (pc' := 9) rfl (hb hby d4_29) (by decide) (by decide) k) ?_
  refine Goes.step (B := s₁.setTop (mkF m 10 #[.val (.ref b1), .val (.ref b2), .val (.int (7 : Int32))] [(.int (7 : Int32))])) (fun _ k => XS.iloadN X0.here hx rfl (hb hby d4_9) rfl k) ?_
  refine Goes.step (B := s₁.setTop (mkF m 11 #[.val (.ref b1), .val (.ref b2), .val (.int (7 : Int32))] [(.ref b1), (.int (7 : Int32))])) (fun _ k => XS.aloadN X0.here hx rfl (hb hby d4_10) rfl rfl k) ?_
  obtain ⟨c24, Ar24, -, Sz24, Nn24, -, -⟩ := id V1
  have len24 := X0.arraylength hx (by rw [e0]; exact Ar24.1) (State.isArrayOf_alike hZ.alike Ar24.2.1) (g := (mkF m 11 #[.val (.ref b1), .val (.ref b2), .val (.int (7 : Int32))] [(.ref b1), (.int (7 : Int32))])) rfl rfl (hb hby d4_11)
  rw [len_of Sz24 Nn24] at len24
  refine Goes.step (B := s₁.setTop (mkF m 12 #[.val (.ref b1), .val (.ref b2), .val (.int (7 : Int32))] [(.int (10 : Int32)), (.int (7 : Int32))])) len24 ?_
  refine Goes.step (B := s₁.setTop (mkF m 15 #[.val (.ref b1), .val (.ref b2), .val (.int (7 : Int32))] [])) (fun _ k => XS.icmpNo X0.here hx rfl (hb hby d4_12) rfl (tlt (by decide)).2.1 k) ?_
  refine Goes.step (B := s₁.setTop (mkF m 16 #[.val (.ref b1), .val (.ref b2), .val (.int (7 : Int32))] [(.ref b1)])) (fun _ k => XS.aloadN X0.here hx rfl (hb hby d4_15) rfl rfl k) ?_
  refine Goes.step (B := s₁.setTop (mkF m 17 #[.val (.ref b1), .val (.ref b2), .val (.int (7 : Int32))] [(.int (7 : Int32)), (.ref b1)])) (fun _ k => XS.iloadN X0.here hx rfl (hb hby d4_16) rfl k) ?_
  obtain ⟨c25, Ar25, -, Sz25, Nn25, Hs25, -⟩ := id V1
  have hin25 : ¬ ((7 : Int32) < 0 ∨ c25.slots.size ≤ ((7 : Int32)).toNatClampNeg) := inb_of Sz25 ⟨by decide, by decide⟩
  refine Goes.step (B := s₁.setTop (mkF m 18 #[.val (.ref b1), .val (.ref b2), .val (.int (7 : Int32))] [(.int (100 : Int32))])) (X0.baloadBytes hx (j := (7 : Int32)) (v := (.int (100 : Int32))) (by rw [e0]; exact Ar25.1) (State.isArrayOf_alike hZ.alike Ar25.2.1) Ar25.2.2 hin25 (Has.at Hs25 hin25 rfl) (g := (mkF m 17 #[.val (.ref b1), .val (.ref b2), .val (.int (7 : Int32))] [(.int (7 : Int32)), (.ref b1)])) rfl rfl (hb hby d4_17)) ?_
  refine Goes.step (B := s₁.setTop (mkF m 19 #[.val (.ref b1), .val (.ref b2), .val (.int (7 : Int32))] [(.ref b2), (.int (100 : Int32))])) (fun _ k => XS.aloadN X0.here hx rfl (hb hby d4_18) rfl rfl k) ?_
  refine Goes.step (B := s₁.setTop (mkF m 20 #[.val (.ref b1), .val (.ref b2), .val (.int (7 : Int32))] [(.int (7 : Int32)), (.ref b2), (.int (100 : Int32))])) (fun _ k => XS.iloadN X0.here hx rfl (hb hby d4_19) rfl k) ?_
  obtain ⟨c26, Ar26, -, Sz26, Nn26, Hs26, -⟩ := id V2
  have hin26 : ¬ ((7 : Int32) < 0 ∨ c26.slots.size ≤ ((7 : Int32)).toNatClampNeg) := inb_of Sz26 ⟨by decide, by decide⟩
  refine Goes.step (B := s₁.setTop (mkF m 21 #[.val (.ref b1), .val (.ref b2), .val (.int (7 : Int32))] [(.int (100 : Int32)), (.int (100 : Int32))])) (X0.baloadBytes hx (j := (7 : Int32)) (v := (.int (100 : Int32))) (by rw [e0]; exact Ar26.1) (State.isArrayOf_alike hZ.alike Ar26.2.1) Ar26.2.2 hin26 (Has.at Hs26 hin26 rfl) (g := (mkF m 20 #[.val (.ref b1), .val (.ref b2), .val (.int (7 : Int32))] [(.int (7 : Int32)), (.ref b2), (.int (100 : Int32))])) rfl rfl (hb hby d4_20)) ?_
  refine Goes.step (B := s₁.setTop (mkF m 26 #[.val (.ref b1), .val (.ref b2), .val (.int (7 : Int32))] [])) (fun _ k => XS.icmpYes X0.here hx rfl (pc0 := 21) (pc' := 26) rfl (hb hby d4_21) rfl (teq (by decide)).1 (by decide) (by decide) k) ?_
  refine Goes.step (B := s₁.setTop (mkF m 29 #[.val (.ref b1), .val (.ref b2), .val (.int (8 : Int32))] [])) (fun _ k => XS.iinc X0.here hx rfl (hb hby d4_26) rfl (l' := #[.val (.ref b1), .val (.ref b2), .val (.int (8 : Int32))]) rfl k) ?_
  refine Goes.step (B := s₁.setTop (mkF m 9 #[.val (.ref b1), .val (.ref b2), .val (.int (8 : Int32))] [])) (fun _ k => XS.goto X0.here hx rfl (pc0 := 29) (pc' := 9) rfl (hb hby d4_29) (by decide) (by decide) k) ?_
  refine Goes.step (B := s₁.setTop (mkF m 10 #[.val (.ref b1), .val (.ref b2), .val (.int (8 : Int32))] [(.int (8 : Int32))])) (fun _ k => XS.iloadN X0.here hx rfl (hb hby d4_9) rfl k) ?_
  refine Goes.step (B := s₁.setTop (mkF m 11 #[.val (.ref b1), .val (.ref b2), .val (.int (8 : Int32))] [(.ref b1), (.int (8 : Int32))])) (fun _ k => XS.aloadN X0.here hx rfl (hb hby d4_10) rfl rfl k) ?_
  obtain ⟨c27, Ar27, -, Sz27, Nn27, -, -⟩ := id V1
  have len27 := X0.arraylength hx (by rw [e0]; exact Ar27.1) (State.isArrayOf_alike hZ.alike Ar27.2.1) (g := (mkF m 11 #[.val (.ref b1), .val (.ref b2), .val (.int (8 : Int32))] [(.ref b1), (.int (8 : Int32))])) rfl rfl (hb hby d4_11)
  rw [len_of Sz27 Nn27] at len27
  refine Goes.step (B := s₁.setTop (mkF m 12 #[.val (.ref b1), .val (.ref b2), .val (.int (8 : Int32))] [(.int (10 : Int32)), (.int (8 : Int32))])) len27 ?_
  refine Goes.step (B := s₁.setTop (mkF m 15 #[.val (.ref b1), .val (.ref b2), .val (.int (8 : Int32))] [])) (fun _ k => XS.icmpNo X0.here hx rfl (hb hby d4_12) rfl (tlt (by decide)).2.1 k) ?_
  refine Goes.step (B := s₁.setTop (mkF m 16 #[.val (.ref b1), .val (.ref b2), .val (.int (8 : Int32))] [(.ref b1)])) (fun _ k => XS.aloadN X0.here hx rfl (hb hby d4_15) rfl rfl k) ?_
  refine Goes.step (B := s₁.setTop (mkF m 17 #[.val (.ref b1), .val (.ref b2), .val (.int (8 : Int32))] [(.int (8 : Int32)), (.ref b1)])) (fun _ k => XS.iloadN X0.here hx rfl (hb hby d4_16) rfl k) ?_
  obtain ⟨c28, Ar28, -, Sz28, Nn28, Hs28, -⟩ := id V1
  have hin28 : ¬ ((8 : Int32) < 0 ∨ c28.slots.size ≤ ((8 : Int32)).toNatClampNeg) := inb_of Sz28 ⟨by decide, by decide⟩
  refine Goes.step (B := s₁.setTop (mkF m 18 #[.val (.ref b1), .val (.ref b2), .val (.int (8 : Int32))] [(.int (101 : Int32))])) (X0.baloadBytes hx (j := (8 : Int32)) (v := (.int (101 : Int32))) (by rw [e0]; exact Ar28.1) (State.isArrayOf_alike hZ.alike Ar28.2.1) Ar28.2.2 hin28 (Has.at Hs28 hin28 rfl) (g := (mkF m 17 #[.val (.ref b1), .val (.ref b2), .val (.int (8 : Int32))] [(.int (8 : Int32)), (.ref b1)])) rfl rfl (hb hby d4_17)) ?_
  refine Goes.step (B := s₁.setTop (mkF m 19 #[.val (.ref b1), .val (.ref b2), .val (.int (8 : Int32))] [(.ref b2), (.int (101 : Int32))])) (fun _ k => XS.aloadN X0.here hx rfl (hb hby d4_18) rfl rfl k) ?_
  refine Goes.step (B := s₁.setTop (mkF m 20 #[.val (.ref b1), .val (.ref b2), .val (.int (8 : Int32))] [(.int (8 : Int32)), (.ref b2), (.int (101 : Int32))])) (fun _ k => XS.iloadN X0.here hx rfl (hb hby d4_19) rfl k) ?_
  obtain ⟨c29, Ar29, -, Sz29, Nn29, Hs29, -⟩ := id V2
  have hin29 : ¬ ((8 : Int32) < 0 ∨ c29.slots.size ≤ ((8 : Int32)).toNatClampNeg) := inb_of Sz29 ⟨by decide, by decide⟩
  refine Goes.step (B := s₁.setTop (mkF m 21 #[.val (.ref b1), .val (.ref b2), .val (.int (8 : Int32))] [(.int (101 : Int32)), (.int (101 : Int32))])) (X0.baloadBytes hx (j := (8 : Int32)) (v := (.int (101 : Int32))) (by rw [e0]; exact Ar29.1) (State.isArrayOf_alike hZ.alike Ar29.2.1) Ar29.2.2 hin29 (Has.at Hs29 hin29 rfl) (g := (mkF m 20 #[.val (.ref b1), .val (.ref b2), .val (.int (8 : Int32))] [(.int (8 : Int32)), (.ref b2), (.int (101 : Int32))])) rfl rfl (hb hby d4_20)) ?_
  refine Goes.step (B := s₁.setTop (mkF m 26 #[.val (.ref b1), .val (.ref b2), .val (.int (8 : Int32))] [])) (fun _ k => XS.icmpYes X0.here hx rfl (pc0 := 21) (pc' := 26) rfl (hb hby d4_21) rfl (teq (by decide)).1 (by decide) (by decide) k) ?_
  refine Goes.step (B := s₁.setTop (mkF m 29 #[.val (.ref b1), .val (.ref b2), .val (.int (9 : Int32))] [])) (fun _ k => XS.iinc X0.here hx rfl (hb hby d4_26) rfl (l' := #[.val (.ref b1), .val (.ref b2), .val (.int (9 : Int32))]) rfl k) ?_
  refine Goes.step (B := s₁.setTop (mkF m 9 #[.val (.ref b1), .val (.ref b2), .val (.int (9 : Int32))] [])) (fun _ k => XS.goto X0.here hx rfl (pc0 := 29) (pc' := 9) rfl (hb hby d4_29) (by decide) (by decide) k) ?_
  refine Goes.step (B := s₁.setTop (mkF m 10 #[.val (.ref b1), .val (.ref b2), .val (.int (9 : Int32))] [(.int (9 : Int32))])) (fun _ k => XS.iloadN X0.here hx rfl (hb hby d4_9) rfl k) ?_
  refine Goes.step (B := s₁.setTop (mkF m 11 #[.val (.ref b1), .val (.ref b2), .val (.int (9 : Int32))] [(.ref b1), (.int (9 : Int32))])) (fun _ k => XS.aloadN X0.here hx rfl (hb hby d4_10) rfl rfl k) ?_
  obtain ⟨c30, Ar30, -, Sz30, Nn30, -, -⟩ := id V1
  have len30 := X0.arraylength hx (by rw [e0]; exact Ar30.1) (State.isArrayOf_alike hZ.alike Ar30.2.1) (g := (mkF m 11 #[.val (.ref b1), .val (.ref b2), .val (.int (9 : Int32))] [(.ref b1), (.int (9 : Int32))])) rfl rfl (hb hby d4_11)
  rw [len_of Sz30 Nn30] at len30
  refine Goes.step (B := s₁.setTop (mkF m 12 #[.val (.ref b1), .val (.ref b2), .val (.int (9 : Int32))] [(.int (10 : Int32)), (.int (9 : Int32))])) len30 ?_
  refine Goes.step (B := s₁.setTop (mkF m 15 #[.val (.ref b1), .val (.ref b2), .val (.int (9 : Int32))] [])) (fun _ k => XS.icmpNo X0.here hx rfl (hb hby d4_12) rfl (tlt (by decide)).2.1 k) ?_
  refine Goes.step (B := s₁.setTop (mkF m 16 #[.val (.ref b1), .val (.ref b2), .val (.int (9 : Int32))] [(.ref b1)])) (fun _ k => XS.aloadN X0.here hx rfl (hb hby d4_15) rfl rfl k) ?_
  refine Goes.step (B := s₁.setTop (mkF m 17 #[.val (.ref b1), .val (.ref b2), .val (.int (9 : Int32))] [(.int (9 : Int32)), (.ref b1)])) (fun _ k => XS.iloadN X0.here hx rfl (hb hby d4_16) rfl k) ?_
  obtain ⟨c31, Ar31, -, Sz31, Nn31, Hs31, -⟩ := id V1
  have hin31 : ¬ ((9 : Int32) < 0 ∨ c31.slots.size ≤ ((9 : Int32)).toNatClampNeg) := inb_of Sz31 ⟨by decide, by decide⟩
  refine Goes.step (B := s₁.setTop (mkF m 18 #[.val (.ref b1), .val (.ref b2), .val (.int (9 : Int32))] [(.int (100 : Int32))])) (X0.baloadBytes hx (j := (9 : Int32)) (v := (.int (100 : Int32))) (by rw [e0]; exact Ar31.1) (State.isArrayOf_alike hZ.alike Ar31.2.1) Ar31.2.2 hin31 (Has.at Hs31 hin31 rfl) (g := (mkF m 17 #[.val (.ref b1), .val (.ref b2), .val (.int (9 : Int32))] [(.int (9 : Int32)), (.ref b1)])) rfl rfl (hb hby d4_17)) ?_
  refine Goes.step (B := s₁.setTop (mkF m 19 #[.val (.ref b1), .val (.ref b2), .val (.int (9 : Int32))] [(.ref b2), (.int (100 : Int32))])) (fun _ k => XS.aloadN X0.here hx rfl (hb hby d4_18) rfl rfl k) ?_
  refine Goes.step (B := s₁.setTop (mkF m 20 #[.val (.ref b1), .val (.ref b2), .val (.int (9 : Int32))] [(.int (9 : Int32)), (.ref b2), (.int (100 : Int32))])) (fun _ k => XS.iloadN X0.here hx rfl (hb hby d4_19) rfl k) ?_
  obtain ⟨c32, Ar32, -, Sz32, Nn32, Hs32, -⟩ := id V2
  have hin32 : ¬ ((9 : Int32) < 0 ∨ c32.slots.size ≤ ((9 : Int32)).toNatClampNeg) := inb_of Sz32 ⟨by decide, by decide⟩
  refine Goes.step (B := s₁.setTop (mkF m 21 #[.val (.ref b1), .val (.ref b2), .val (.int (9 : Int32))] [(.int (100 : Int32)), (.int (100 : Int32))])) (X0.baloadBytes hx (j := (9 : Int32)) (v := (.int (100 : Int32))) (by rw [e0]; exact Ar32.1) (State.isArrayOf_alike hZ.alike Ar32.2.1) Ar32.2.2 hin32 (Has.at Hs32 hin32 rfl) (g := (mkF m 20 #[.val (.ref b1), .val (.ref b2), .val (.int (9 : Int32))] [(.int (9 : Int32)), (.ref b2), (.int (100 : Int32))])) rfl rfl (hb hby d4_20)) ?_
  refine Goes.step (B := s₁.setTop (mkF m 26 #[.val (.ref b1), .val (.ref b2), .val (.int (9 : Int32))] [])) (fun _ k => XS.icmpYes X0.here hx rfl (pc0 := 21) (pc' := 26) rfl (hb hby d4_21) rfl (teq (by decide)).1 (by decide) (by decide) k) ?_
  refine Goes.step (B := s₁.setTop (mkF m 29 #[.val (.ref b1), .val (.ref b2), .val (.int (10 : Int32))] [])) (fun _ k => XS.iinc X0.here hx rfl (hb hby d4_26) rfl (l' := #[.val (.ref b1), .val (.ref b2), .val (.int (10 : Int32))]) rfl k) ?_
  refine Goes.step (B := s₁.setTop (mkF m 9 #[.val (.ref b1), .val (.ref b2), .val (.int (10 : Int32))] [])) (fun _ k => XS.goto X0.here hx rfl (pc0 := 29) (pc' := 9) rfl (hb hby d4_29) (by decide) (by decide) k) ?_
  refine Goes.step (B := s₁.setTop (mkF m 10 #[.val (.ref b1), .val (.ref b2), .val (.int (10 : Int32))] [(.int (10 : Int32))])) (fun _ k => XS.iloadN X0.here hx rfl (hb hby d4_9) rfl k) ?_
  refine Goes.step (B := s₁.setTop (mkF m 11 #[.val (.ref b1), .val (.ref b2), .val (.int (10 : Int32))] [(.ref b1), (.int (10 : Int32))])) (fun _ k => XS.aloadN X0.here hx rfl (hb hby d4_10) rfl rfl k) ?_
  obtain ⟨c33, Ar33, -, Sz33, Nn33, -, -⟩ := id V1
  have len33 := X0.arraylength hx (by rw [e0]; exact Ar33.1) (State.isArrayOf_alike hZ.alike Ar33.2.1) (g := (mkF m 11 #[.val (.ref b1), .val (.ref b2), .val (.int (10 : Int32))] [(.ref b1), (.int (10 : Int32))])) rfl rfl (hb hby d4_11)
  rw [len_of Sz33 Nn33] at len33
  refine Goes.step (B := s₁.setTop (mkF m 12 #[.val (.ref b1), .val (.ref b2), .val (.int (10 : Int32))] [(.int (10 : Int32)), (.int (10 : Int32))])) len33 ?_
  refine Goes.step (B := s₁.setTop (mkF m 32 #[.val (.ref b1), .val (.ref b2), .val (.int (10 : Int32))] [])) (fun _ k => XS.icmpYes X0.here hx rfl (pc0 := 12) (pc' := 32) rfl (hb hby d4_12) rfl (flt (by decide)).2.1 (by decide) (by decide) k) ?_
  refine Goes.step (B := s₁.setTop (mkF m 33 #[.val (.ref b1), .val (.ref b2), .val (.int (10 : Int32))] [(.int (1 : Int32))])) (fun _ k => XS.iconst X0.here hx rfl (hb hby d4_32) k) ?_
  exact Goes.retN X0 hx e0 (t := .boolean) Bd.returns (by simp) hlk (hb hby d4_33) (by decide) (by decide) (⟨rfl, N0, rfl⟩)
theorem d4_34 : decode jdk_43_method_13_code 34 = .ok (.iconst 0, 1) := by decide +kernel
theorem d4_35 : decode jdk_43_method_13_code 35 = .ok (.ireturn, 1) := by decide +kernel
theorem ef_rmL2 (m : MethodId) (x0 : Addr) (x1 : Addr) : entryFrame m #[(.ref x0), (.ref x1)] 3 = mkF m 0 #[.val (.ref x0), .val (.ref x1), .unset] [] := by first | (simp [entryFrame, mkF, argsToLocals, Value.category]; done) | rfl
def QL2 (Z : State) (b1 : Addr) (b2 : Addr) (k1 : ClassId) (k2 : ClassId) (h0 : Heap) (n0 : Nat) (v : Option Value) (h : Heap) (L : List Loc) : Prop := v = some (.int (0 : Int32)) ∧ Fr n0 L ∧ h = h0
set_option maxRecDepth 65536 in
set_option maxHeartbeats 40000000 in
theorem rmL2 (l : Launch) (Z : State) (a0 : Array Value) (hw : ∀ d ∈ tables_1, d.before a0 Z = true) (ws : List Jvm.Cond) (b1 : Addr) (b2 : Addr) (k1 : ClassId) (k2 : ClassId) (h0 : Heap) (n0 : Nat) (O0 : Old Z n0 h0) (V1 : Arv Z h0 b1 k1 .byte (10 : Int32) [.int (110 : Int32), .int (111 : Int32), .int (116 : Int32), .int (32 : Int32), .int (108 : Int32), .int (111 : Int32), .int (97 : Int32), .int (100 : Int32), .int (101 : Int32), .int (100 : Int32)] (.int (0 : Int32))) (V2 : Arv Z h0 b2 k2 .byte (6 : Int32) [.int (116 : Int32), .int (104 : Int32), .int (114 : Int32), .int (111 : Int32), .int (119 : Int32), .int (110 : Int32)] (.int (0 : Int32))) :
    MetFree l (⟨"java/lang/StringLatin1", "equals", "([B[B)Z"⟩ : MethodName) (head1 (Jvm.Cond.code (⟨"java/lang/StringLatin1", "equals", "([B[B)Z"⟩ : MethodName) jdk_43_method_13_code 3 (some .boolean) :: ws) ({ frames := 0, cells := 0, slots := 0, locals := 0 } : Room)) (fun a U => a = #[(.ref b1), (.ref b2)] ∧ Z.Warmed39 U.vm ∧ U.heap = h0) (fun _ _ _ _ _ => True) (fun _ U o U' => ∃ v L, o = .returned v ∧ QL2 Z b1 b2 k1 k2 h0 n0 v U'.heap L ∧ FrameEnd U o U' L ({ frames := 0, cells := 0, slots := 0, locals := 0 } : Room).cells ({ frames := 0, cells := 0, slots := 0, locals := 0 } : Room).slots) := by
  refine MetFree.of_bodySF (plainFor_of_name pn_StringLatin1) hisR ?_
  intro p e s m args below meth c s₁ Bd hml0 hP hK
  obtain ⟨rfl, hZ, hh⟩ := hP
  have hx := Bd.exec
  have hby := Bd.bytes
  have hlk : meth.locks = false := BodyLoose.notSynchronized Bd
  have hml : c.maxLocals = 3 := hml0
  have hown : s.vm.findClass "java/lang/StringLatin1" = some m.cls := findClass_of_methodNamed Bd.named
  have hnm := (name_of_methodNamed Bd.named Bd.method).1
  have X0 : Stand p l e ({ frames := 0, cells := 0, slots := 0, locals := 0 } : Room) s m #[(.ref b1), (.ref b2)] below meth c s₁ [] 0 0 := Stand.of_body Bd
  have e0 : s₁.heap = h0 := by rw [← hh, Bd.state]; rfl
  have N0 := Fr.nil n0
  show Goes p e below s (QL2 Z b1 b2 k1 k2 h0 n0) ({ frames := 0, cells := 0, slots := 0, locals := 0 } : Room).cells ({ frames := 0, cells := 0, slots := 0, locals := 0 } : Room).slots (s₁.setTop (entryFrame m #[(.ref b1), (.ref b2)] 3))
  refine Goes.enter (g' := (mkF m 0 #[.val (.ref b1), .val (.ref b2), .unset] [])) (ef_rmL2 m b1 b2) ?_
  refine Goes.step (B := s₁.setTop (mkF m 1 #[.val (.ref b1), .val (.ref b2), .unset] [(.ref b1)])) (fun _ k => XS.aloadN X0.here hx rfl (hb hby d4_0) rfl rfl k) ?_
  obtain ⟨c1, Ar1, -, Sz1, Nn1, -, -⟩ := id V1
  have len1 := X0.arraylength hx (by rw [e0]; exact Ar1.1) (State.isArrayOf_alike hZ.alike Ar1.2.1) (g := (mkF m 1 #[.val (.ref b1), .val (.ref b2), .unset] [(.ref b1)])) rfl rfl (hb hby d4_1)
  rw [len_of Sz1 Nn1] at len1
  refine Goes.step (B := s₁.setTop (mkF m 2 #[.val (.ref b1), .val (.ref b2), .unset] [(.int (10 : Int32))])) len1 ?_
  refine Goes.step (B := s₁.setTop (mkF m 3 #[.val (.ref b1), .val (.ref b2), .unset] [(.ref b2), (.int (10 : Int32))])) (fun _ k => XS.aloadN X0.here hx rfl (hb hby d4_2) rfl rfl k) ?_
  obtain ⟨c2, Ar2, -, Sz2, Nn2, -, -⟩ := id V2
  have len2 := X0.arraylength hx (by rw [e0]; exact Ar2.1) (State.isArrayOf_alike hZ.alike Ar2.2.1) (g := (mkF m 3 #[.val (.ref b1), .val (.ref b2), .unset] [(.ref b2), (.int (10 : Int32))])) rfl rfl (hb hby d4_3)
  rw [len_of Sz2 Nn2] at len2
  refine Goes.step (B := s₁.setTop (mkF m 4 #[.val (.ref b1), .val (.ref b2), .unset] [(.int (6 : Int32)), (.int (10 : Int32))])) len2 ?_
  refine Goes.step (B := s₁.setTop (mkF m 34 #[.val (.ref b1), .val (.ref b2), .unset] [])) (fun _ k => XS.icmpYes X0.here hx rfl (pc0 := 4) (pc' := 34) rfl (hb hby d4_4) rfl (feq (by decide)).2 (by decide) (by decide) k) ?_
  refine Goes.step (B := s₁.setTop (mkF m 35 #[.val (.ref b1), .val (.ref b2), .unset] [(.int (0 : Int32))])) (fun _ k => XS.iconst X0.here hx rfl (hb hby d4_34) k) ?_
  exact Goes.retN X0 hx e0 (t := .boolean) Bd.returns (by simp) hlk (hb hby d4_35) (by decide) (by decide) (⟨rfl, N0, rfl⟩)
theorem d3_0 : decode jdk_42_method_66_code 0 = .ok (.aload_n 0, 1) := by decide +kernel
theorem d3_1 : decode jdk_42_method_66_code 1 = .ok (.aload_n 1, 1) := by decide +kernel
theorem d3_2 : decode jdk_42_method_66_code 2 = .ok (.if_acmp .ne 5, 3) := by decide +kernel
theorem d3_7 : decode jdk_42_method_66_code 7 = .ok (.aload_n 1, 1) := by decide +kernel
theorem d3_8 : decode jdk_42_method_66_code 8 = .ok (.instanceof 10, 3) := by decide +kernel
theorem d3_11 : decode jdk_42_method_66_code 11 = .ok (.ifCond .eq 43, 3) := by decide +kernel
theorem d3_54 : decode jdk_42_method_66_code 54 = .ok (.iconst 0, 1) := by decide +kernel
theorem d3_55 : decode jdk_42_method_66_code 55 = .ok (.ireturn, 1) := by decide +kernel
theorem pn_String : plainName "java/lang/String" = true := by first | (simp [plainName, overriddenIn]; done) | decide +kernel
theorem ef_rmE0 (m : MethodId) (x0 : Addr) : entryFrame m #[(.ref x0), .null] 3 = mkF m 0 #[.val (.ref x0), .val .null, .unset] [] := by first | (simp [entryFrame, mkF, argsToLocals, Value.category]; done) | rfl
def QE0 (Z : State) (a1 : Addr) (h0 : Heap) (n0 : Nat) (v : Option Value) (h : Heap) (L : List Loc) : Prop := v = some (.int (0 : Int32)) ∧ Fr n0 L ∧ h = h0
set_option maxRecDepth 65536 in
set_option maxHeartbeats 40000000 in
theorem rmE0 (l : Launch) (Z : State) (a0 : Array Value) (hw : ∀ d ∈ tables_1, d.before a0 Z = true) (ws : List Jvm.Cond) (a1 : Addr) (h0 : Heap) (n0 : Nat) (O0 : Old Z n0 h0) :
    MetFree l (⟨"java/lang/String", "equals", "(Ljava/lang/Object;)Z"⟩ : MethodName) (head1 (Jvm.Cond.code (⟨"java/lang/String", "equals", "(Ljava/lang/Object;)Z"⟩ : MethodName) jdk_42_method_66_code 3 (some .boolean) :: ws) ({ frames := 0, cells := 0, slots := 0, locals := 0 } : Room)) (fun a U => a = #[(.ref a1), .null] ∧ Z.Warmed39 U.vm ∧ U.heap = h0) (fun _ _ _ _ _ => True) (fun _ U o U' => ∃ v L, o = .returned v ∧ QE0 Z a1 h0 n0 v U'.heap L ∧ FrameEnd U o U' L ({ frames := 0, cells := 0, slots := 0, locals := 0 } : Room).cells ({ frames := 0, cells := 0, slots := 0, locals := 0 } : Room).slots) := by
  refine MetFree.of_bodySF (plainFor_of_name pn_String) hisR ?_
  intro p e s m args below meth c s₁ Bd hml0 hP hK
  obtain ⟨rfl, hZ, hh⟩ := hP
  have hx := Bd.exec
  have hby := Bd.bytes
  have hlk : meth.locks = false := BodyLoose.notSynchronized Bd
  have hml : c.maxLocals = 3 := hml0
  have hown : s.vm.findClass "java/lang/String" = some m.cls := findClass_of_methodNamed Bd.named
  have hnm := (name_of_methodNamed Bd.named Bd.method).1
  have X0 : Stand p l e ({ frames := 0, cells := 0, slots := 0, locals := 0 } : Room) s m #[(.ref a1), .null] below meth c s₁ [] 0 0 := Stand.of_body Bd
  have e0 : s₁.heap = h0 := by rw [← hh, Bd.state]; rfl
  have N0 := Fr.nil n0
  show Goes p e below s (QE0 Z a1 h0 n0) ({ frames := 0, cells := 0, slots := 0, locals := 0 } : Room).cells ({ frames := 0, cells := 0, slots := 0, locals := 0 } : Room).slots (s₁.setTop (entryFrame m #[(.ref a1), .null] 3))
  refine Goes.enter (g' := (mkF m 0 #[.val (.ref a1), .val .null, .unset] [])) (ef_rmE0 m a1) ?_
  refine Goes.step (B := s₁.setTop (mkF m 1 #[.val (.ref a1), .val .null, .unset] [(.ref a1)])) (fun _ k => XS.aloadN X0.here hx rfl (hb hby d3_0) rfl rfl k) ?_
  refine Goes.step (B := s₁.setTop (mkF m 2 #[.val (.ref a1), .val .null, .unset] [.null, (.ref a1)])) (fun _ k => XS.aloadN X0.here hx rfl (hb hby d3_1) rfl rfl k) ?_
  refine Goes.step (B := s₁.setTop (mkF m 7 #[.val (.ref a1), .val .null, .unset] [])) (fun _ k => Jvm.RoadKit.acmp (g := (mkF m 2 #[.val (.ref a1), .val .null, .unset] [.null, (.ref a1)])) X0 hx rfl rfl rfl (pc0 := 2) (pc' := 7) (same := false) rfl (hb hby d3_2) rfl (decide_eq_false nofun) (by decide) (by decide) k) ?_
  refine Goes.step (B := s₁.setTop (mkF m 8 #[.val (.ref a1), .val .null, .unset] [.null])) (fun _ k => XS.aloadN X0.here hx rfl (hb hby d3_7) rfl rfl k) ?_
  refine Goes.step (B := s₁.setTop (mkF m 11 #[.val (.ref a1), .val .null, .unset] [(.int (0 : Int32))])) (X0.instanceofNull hx (g := (mkF m 8 #[.val (.ref a1), .val .null, .unset] [.null])) rfl rfl (hb hby d3_8)) ?_
  refine Goes.step (B := s₁.setTop (mkF m 54 #[.val (.ref a1), .val .null, .unset] [])) (fun _ k => XS.ifYes X0.here hx rfl (pc0 := 11) (pc' := 54) rfl (hb hby d3_11) rfl ((if0 _ _).trans (teq (by decide)).1) (by decide) (by decide) k) ?_
  refine Goes.step (B := s₁.setTop (mkF m 55 #[.val (.ref a1), .val .null, .unset] [(.int (0 : Int32))])) (fun _ k => XS.iconst X0.here hx rfl (hb hby d3_54) k) ?_
  exact Goes.retN X0 hx e0 (t := .boolean) Bd.returns (by simp) hlk (hb hby d3_55) (by decide) (by decide) (⟨rfl, N0, rfl⟩)
theorem d3_5 : decode jdk_42_method_66_code 5 = .ok (.iconst 1, 1) := by decide +kernel
theorem d3_6 : decode jdk_42_method_66_code 6 = .ok (.ireturn, 1) := by decide +kernel
theorem d3_14 : decode jdk_42_method_66_code 14 = .ok (.aload_n 1, 1) := by decide +kernel
theorem d3_15 : decode jdk_42_method_66_code 15 = .ok (.checkcast 10, 3) := by decide +kernel
theorem d3_18 : decode jdk_42_method_66_code 18 = .ok (.astore_n 2, 1) := by decide +kernel
theorem d3_19 : decode jdk_42_method_66_code 19 = .ok (.getstatic 38, 3) := by decide +kernel
theorem d3_22 : decode jdk_42_method_66_code 22 = .ok (.ifCond .eq 14, 3) := by decide +kernel
theorem d3_25 : decode jdk_42_method_66_code 25 = .ok (.aload_n 0, 1) := by decide +kernel
theorem d3_26 : decode jdk_42_method_66_code 26 = .ok (.getfield 15, 3) := by decide +kernel
theorem d3_29 : decode jdk_42_method_66_code 29 = .ok (.aload_n 2, 1) := by decide +kernel
theorem d3_30 : decode jdk_42_method_66_code 30 = .ok (.getfield 15, 3) := by decide +kernel
theorem d3_33 : decode jdk_42_method_66_code 33 = .ok (.if_icmp .ne 21, 3) := by decide +kernel
theorem d3_36 : decode jdk_42_method_66_code 36 = .ok (.aload_n 0, 1) := by decide +kernel
theorem d3_37 : decode jdk_42_method_66_code 37 = .ok (.getfield 9, 3) := by decide +kernel
theorem d3_40 : decode jdk_42_method_66_code 40 = .ok (.aload_n 2, 1) := by decide +kernel
theorem d3_41 : decode jdk_42_method_66_code 41 = .ok (.getfield 9, 3) := by decide +kernel
theorem d3_44 : decode jdk_42_method_66_code 44 = .ok (.invokestatic 541, 3) := by decide +kernel
theorem pd_0 : parseMethodDescriptor "([B[B)Z" = some ⟨[(.array .byte), (.array .byte)], some .boolean⟩ := by decide +kernel
theorem d3_47 : decode jdk_42_method_66_code 47 = .ok (.ifCond .eq 7, 3) := by decide +kernel
theorem d3_50 : decode jdk_42_method_66_code 50 = .ok (.iconst 1, 1) := by decide +kernel
theorem d3_51 : decode jdk_42_method_66_code 51 = .ok (.goto 4, 3) := by decide +kernel
theorem ef_rmE1 (m : MethodId) (x0 : Addr) (x1 : Addr) : entryFrame m #[(.ref x0), (.ref x1)] 3 = mkF m 0 #[.val (.ref x0), .val (.ref x1), .unset] [] := by first | (simp [entryFrame, mkF, argsToLocals, Value.category]; done) | rfl
def QE1 (Z : State) (a1 : Addr) (a2 : Addr) (b1 : Addr) (b2 : Addr) (k1 : ClassId) (k2 : ClassId) (cs : Int32) (h0 : Heap) (n0 : Nat) (v : Option Value) (h : Heap) (L : List Loc) : Prop := v = some (.int (1 : Int32)) ∧ Fr n0 L ∧ h = h0
set_option maxRecDepth 65536 in
set_option maxHeartbeats 40000000 in
theorem rmE1 (l : Launch) (Z : State) (a0 : Array Value) (hw : ∀ d ∈ tables_1, d.before a0 Z = true) (ws : List Jvm.Cond) (a1 : Addr) (a2 : Addr) (b1 : Addr) (b2 : Addr) (k1 : ClassId) (k2 : ClassId) (cs : Int32) (h0 : Heap) (n0 : Nat) (O0 : Old Z n0 h0) (Sc : Sta Z h0 "java/lang/String" "COMPACT_STRINGS" "Z" (.int cs)) (hcs : ¬ cs = (0 : Int32)) (E2 : Exa Z h0 a2 "java/lang/String") (Fc1 : Fld Z h0 a1 "java/lang/String" "coder" "B" (.int (0 : Int32))) (Fv1 : Fld Z h0 a1 "java/lang/String" "value" "[B" (.ref b1)) (V1 : Arv Z h0 b1 k1 .byte (10 : Int32) [.int (110 : Int32), .int (111 : Int32), .int (116 : Int32), .int (32 : Int32), .int (108 : Int32), .int (111 : Int32), .int (97 : Int32), .int (100 : Int32), .int (101 : Int32), .int (100 : Int32)] (.int (0 : Int32))) (Fc2 : Fld Z h0 a2 "java/lang/String" "coder" "B" (.int (0 : Int32))) (Fv2 : Fld Z h0 a2 "java/lang/String" "value" "[B" (.ref b2)) (V2 : Arv Z h0 b2 k2 .byte (10 : Int32) [.int (110 : Int32), .int (111 : Int32), .int (116 : Int32), .int (32 : Int32), .int (108 : Int32), .int (111 : Int32), .int (97 : Int32), .int (100 : Int32), .int (101 : Int32), .int (100 : Int32)] (.int (0 : Int32))) :
    MetFree l (⟨"java/lang/String", "equals", "(Ljava/lang/Object;)Z"⟩ : MethodName) (head1 (Jvm.Cond.code (⟨"java/lang/String", "equals", "(Ljava/lang/Object;)Z"⟩ : MethodName) jdk_42_method_66_code 3 (some .boolean) :: ws) ({ frames := 1, cells := 0, slots := 0, locals := 14 } : Room)) (fun a U => a = #[(.ref a1), (.ref a2)] ∧ Z.Warmed39 U.vm ∧ U.heap = h0) (fun _ _ _ _ _ => True) (fun _ U o U' => ∃ v L, o = .returned v ∧ QE1 Z a1 a2 b1 b2 k1 k2 cs h0 n0 v U'.heap L ∧ FrameEnd U o U' L ({ frames := 1, cells := 0, slots := 0, locals := 14 } : Room).cells ({ frames := 1, cells := 0, slots := 0, locals := 14 } : Room).slots) := by
  refine MetFree.of_bodySF (plainFor_of_name pn_String) hisR ?_
  intro p e s m args below meth c s₁ Bd hml0 hP hK
  obtain ⟨rfl, hZ, hh⟩ := hP
  have hx := Bd.exec
  have hby := Bd.bytes
  have hlk : meth.locks = false := BodyLoose.notSynchronized Bd
  have hml : c.maxLocals = 3 := hml0
  have hown : s.vm.findClass "java/lang/String" = some m.cls := findClass_of_methodNamed Bd.named
  have hnm := (name_of_methodNamed Bd.named Bd.method).1
  have X0 : Stand p l e ({ frames := 1, cells := 0, slots := 0, locals := 14 } : Room) s m #[(.ref a1), (.ref a2)] below meth c s₁ [] 0 0 := Stand.of_body Bd
  have e0 : s₁.heap = h0 := by rw [← hh, Bd.state]; rfl
  have N0 := Fr.nil n0
  show Goes p e below s (QE1 Z a1 a2 b1 b2 k1 k2 cs h0 n0) ({ frames := 1, cells := 0, slots := 0, locals := 14 } : Room).cells ({ frames := 1, cells := 0, slots := 0, locals := 14 } : Room).slots (s₁.setTop (entryFrame m #[(.ref a1), (.ref a2)] 3))
  refine Goes.enter (g' := (mkF m 0 #[.val (.ref a1), .val (.ref a2), .unset] [])) (ef_rmE1 m a1 a2) ?_
  refine Goes.step (B := s₁.setTop (mkF m 1 #[.val (.ref a1), .val (.ref a2), .unset] [(.ref a1)])) (fun _ k => XS.aloadN X0.here hx rfl (hb hby d3_0) rfl rfl k) ?_
  refine Goes.step (B := s₁.setTop (mkF m 2 #[.val (.ref a1), .val (.ref a2), .unset] [(.ref a2), (.ref a1)])) (fun _ k => XS.aloadN X0.here hx rfl (hb hby d3_1) rfl rfl k) ?_
  by_cases hc2_0 : a1 = a2
  · refine Goes.step (B := s₁.setTop (mkF m 5 #[.val (.ref a1), .val (.ref a2), .unset] [])) (fun _ k => Jvm.RoadKit.acmp (g := (mkF m 2 #[.val (.ref a1), .val (.ref a2), .unset] [(.ref a2), (.ref a1)])) X0 hx rfl rfl rfl (pc0 := 2) (pc' := 5) (same := true) rfl (hb hby d3_2) rfl (decide_eq_true (congrArg Value.ref hc2_0)) (by decide) (by decide) k) ?_
    refine Goes.step (B := s₁.setTop (mkF m 6 #[.val (.ref a1), .val (.ref a2), .unset] [(.int (1 : Int32))])) (fun _ k => XS.iconst X0.here hx rfl (hb hby d3_5) k) ?_
    exact Goes.retN X0 hx e0 (t := .boolean) Bd.returns (by simp) hlk (hb hby d3_6) (by decide) (by decide) (⟨rfl, N0, rfl⟩)
  · refine Goes.step (B := s₁.setTop (mkF m 7 #[.val (.ref a1), .val (.ref a2), .unset] [])) (fun _ k => Jvm.RoadKit.acmp (g := (mkF m 2 #[.val (.ref a1), .val (.ref a2), .unset] [(.ref a2), (.ref a1)])) X0 hx rfl rfl rfl (pc0 := 2) (pc' := 7) (same := false) rfl (hb hby d3_2) rfl (decide_eq_false fun q => hc2_0 (Value.ref.inj q)) (by decide) (by decide) k) ?_
    refine Goes.step (B := s₁.setTop (mkF m 8 #[.val (.ref a1), .val (.ref a2), .unset] [(.ref a2)])) (fun _ k => XS.aloadN X0.here hx rfl (hb hby d3_7) rfl rfl k) ?_
    obtain ⟨T2, X2, e2, st2⟩ := instY X0 hx hZ hown (hw _ (List.mem_of_getElem? (i := 33) rfl)) e0 (Ins.self E2) (g := (mkF m 8 #[.val (.ref a1), .val (.ref a2), .unset] [(.ref a2)])) rfl rfl (hb hby d3_8)
    refine Goes.step (B := T2.setTop (mkF m 11 #[.val (.ref a1), .val (.ref a2), .unset] [(.int (1 : Int32))])) st2 ?_
    refine Goes.step (B := T2.setTop (mkF m 14 #[.val (.ref a1), .val (.ref a2), .unset] [])) (fun _ k => XS.ifNo X2.here hx rfl (hb hby d3_11) rfl ((if0 _ _).trans (feq (by decide)).1) k) ?_
    refine Goes.step (B := T2.setTop (mkF m 15 #[.val (.ref a1), .val (.ref a2), .unset] [(.ref a2)])) (fun _ k => XS.aloadN X2.here hx rfl (hb hby d3_14) rfl rfl k) ?_
    obtain ⟨T3, X3, e3, st3⟩ := castY X2 hx hZ hown (hw _ (List.mem_of_getElem? (i := 33) rfl)) e2 (Ins.self E2) (g := (mkF m 15 #[.val (.ref a1), .val (.ref a2), .unset] [(.ref a2)])) rfl rfl (hb hby d3_15)
    refine Goes.step (B := T3.setTop (mkF m 18 #[.val (.ref a1), .val (.ref a2), .unset] [(.ref a2)])) st3 ?_
    refine Goes.step (B := T3.setTop (mkF m 19 #[.val (.ref a1), .val (.ref a2), .val (.ref a2)] [])) (fun _ k => XS.astoreN X3.here hx rfl (hb hby d3_18) rfl rfl (l' := #[.val (.ref a1), .val (.ref a2), .val (.ref a2)]) rfl k) ?_
    obtain ⟨T4, X4, e4, st4⟩ := getS2 X3 hx hZ hown (host := "") (Or.inl (hw _ (List.mem_of_getElem? (i := 35) rfl))) Via.refl e3 Sc (g := (mkF m 19 #[.val (.ref a1), .val (.ref a2), .val (.ref a2)] [])) rfl (hb hby d3_19)
    refine Goes.step (B := T4.setTop (mkF m 22 #[.val (.ref a1), .val (.ref a2), .val (.ref a2)] [(.int cs)])) st4 ?_
    refine Goes.step (B := T4.setTop (mkF m 25 #[.val (.ref a1), .val (.ref a2), .val (.ref a2)] [])) (fun _ k => XS.ifNo X4.here hx rfl (hb hby d3_22) rfl ((if0 _ _).trans (feq hcs).1) k) ?_
    refine Goes.step (B := T4.setTop (mkF m 26 #[.val (.ref a1), .val (.ref a2), .val (.ref a2)] [(.ref a1)])) (fun _ k => XS.aloadN X4.here hx rfl (hb hby d3_25) rfl rfl k) ?_
    obtain ⟨T5, X5, e5, st5⟩ := getF X4 hx hZ hown (host := "") (Or.inl (hw _ (List.mem_of_getElem? (i := 36) rfl))) Via.refl e4 Fc1 (g := (mkF m 26 #[.val (.ref a1), .val (.ref a2), .val (.ref a2)] [(.ref a1)])) rfl rfl (hb hby d3_26)
    refine Goes.step (B := T5.setTop (mkF m 29 #[.val (.ref a1), .val (.ref a2), .val (.ref a2)] [(.int (0 : Int32))])) st5 ?_
    refine Goes.step (B := T5.setTop (mkF m 30 #[.val (.ref a1), .val (.ref a2), .val (.ref a2)] [(.ref a2), (.int (0 : Int32))])) (fun _ k => XS.aloadN X5.here hx rfl (hb hby d3_29) rfl rfl k) ?_
    obtain ⟨T6, X6, e6, st6⟩ := getF X5 hx hZ hown (host := "") (Or.inl (hw _ (List.mem_of_getElem? (i := 36) rfl))) Via.refl e5 Fc2 (g := (mkF m 30 #[.val (.ref a1), .val (.ref a2), .val (.ref a2)] [(.ref a2), (.int (0 : Int32))])) rfl rfl (hb hby d3_30)
    refine Goes.step (B := T6.setTop (mkF m 33 #[.val (.ref a1), .val (.ref a2), .val (.ref a2)] [(.int (0 : Int32)), (.int (0 : Int32))])) st6 ?_
    refine Goes.step (B := T6.setTop (mkF m 36 #[.val (.ref a1), .val (.ref a2), .val (.ref a2)] [])) (fun _ k => XS.icmpNo X6.here hx rfl (hb hby d3_33) rfl (teq (by decide)).2 k) ?_
    refine Goes.step (B := T6.setTop (mkF m 37 #[.val (.ref a1), .val (.ref a2), .val (.ref a2)] [(.ref a1)])) (fun _ k => XS.aloadN X6.here hx rfl (hb hby d3_36) rfl rfl k) ?_
    obtain ⟨T7, X7, e7, st7⟩ := getF X6 hx hZ hown (host := "") (Or.inl (hw _ (List.mem_of_getElem? (i := 37) rfl))) Via.refl e6 Fv1 (g := (mkF m 37 #[.val (.ref a1), .val (.ref a2), .val (.ref a2)] [(.ref a1)])) rfl rfl (hb hby d3_37)
    refine Goes.step (B := T7.setTop (mkF m 40 #[.val (.ref a1), .val (.ref a2), .val (.ref a2)] [(.ref b1)])) st7 ?_
    refine Goes.step (B := T7.setTop (mkF m 41 #[.val (.ref a1), .val (.ref a2), .val (.ref a2)] [(.ref a2), (.ref b1)])) (fun _ k => XS.aloadN X7.here hx rfl (hb hby d3_40) rfl rfl k) ?_
    obtain ⟨T8, X8, e8, st8⟩ := getF X7 hx hZ hown (host := "") (Or.inl (hw _ (List.mem_of_getElem? (i := 37) rfl))) Via.refl e7 Fv2 (g := (mkF m 41 #[.val (.ref a1), .val (.ref a2), .val (.ref a2)] [(.ref a2), (.ref b1)])) rfl rfl (hb hby d3_41)
    refine Goes.step (B := T8.setTop (mkF m 44 #[.val (.ref a1), .val (.ref a2), .val (.ref a2)] [(.ref b2), (.ref b1)])) st8 ?_
    obtain ⟨_, _, ⟨T9, L9, k9, n9⟩, -, X9, ⟨Lc9, hQ9, l9, y9, z9⟩, st9⟩ := Jvm.LawKit.callS X8 hx (y := (⟨"java/lang/StringLatin1", "equals", "([B[B)Z"⟩ : MethodName)) hown (mvT hZ (hw _ (List.mem_of_getElem? (i := 38) rfl))) (mvT hZ (hw _ (List.mem_of_getElem? (i := 39) rfl))) (mvT hZ (hw _ (List.mem_of_getElem? (i := 40) rfl))) (mvT hZ (hw _ (List.mem_of_getElem? (i := 41) rfl))) (by decide) (backOf (W := 0) (rmL1 l Z a0 hw [] b1 b2 k1 k2 h0 n0 O0 V1 V2) hZ (hw _ (List.mem_of_getElem? (i := 41) rfl)) (hw _ (List.mem_of_getElem? (i := 40) rfl)) (by decide) (by decide)) (g := (mkF m 44 #[.val (.ref a1), .val (.ref a2), .val (.ref a2)] [(.ref b2), (.ref b1)])) rfl (by rw [hml]; rfl) (argsL := [(.ref b1), (.ref b2)]) (rest := []) (lenOf pd_0 rfl) rfl (by show 2 * 0 + _ ≤ _; exact Nat.le_of_eq rfl) (hb hby d3_44) (fun _ _ => ⟨rfl, e8, (by decide : 0 + 0 ≤ _), (by decide : 0 + 0 ≤ _)⟩)
    dsimp only [Pt.U, Pt.locs, Pt.cells, Pt.slots] at X9 l9 y9 z9 st9 hQ9
    subst l9 y9 z9
    obtain ⟨rfl, Nq9, eh9⟩ := hQ9
    have N9 := Fr.app N0 Nq9
    refine Goes.step (B := T9.setTop (mkF m 47 #[.val (.ref a1), .val (.ref a2), .val (.ref a2)] [(.int (1 : Int32))])) st9 ?_
    refine Goes.step (B := T9.setTop (mkF m 50 #[.val (.ref a1), .val (.ref a2), .val (.ref a2)] [])) (fun _ k => XS.ifNo X9.here hx rfl (hb hby d3_47) rfl ((if0 _ _).trans (feq (by decide)).1) k) ?_
    refine Goes.step (B := T9.setTop (mkF m 51 #[.val (.ref a1), .val (.ref a2), .val (.ref a2)] [(.int (1 : Int32))])) (fun _ k => XS.iconst X9.here hx rfl (hb hby d3_50) k) ?_
    refine Goes.step (B := T9.setTop (mkF m 55 #[.val (.ref a1), .val (.ref a2), .val (.ref a2)] [(.int (1 : Int32))])) (fun _ k => XS.goto X9.here hx rfl (pc0 := 51) (pc' := 55) rfl (hb hby d3_51) (by decide) (by decide) k) ?_
    exact Goes.retN X9 hx eh9 (t := .boolean) Bd.returns (by simp) hlk (hb hby d3_55) (by decide) (by decide) (⟨rfl, N9, rfl⟩)
theorem ef_rmE2 (m : MethodId) (x0 : Addr) (x1 : Addr) : entryFrame m #[(.ref x0), (.ref x1)] 3 = mkF m 0 #[.val (.ref x0), .val (.ref x1), .unset] [] := by first | (simp [entryFrame, mkF, argsToLocals, Value.category]; done) | rfl
def QE2 (Z : State) (a1 : Addr) (a2 : Addr) (b1 : Addr) (b2 : Addr) (k1 : ClassId) (k2 : ClassId) (cs : Int32) (h0 : Heap) (n0 : Nat) (v : Option Value) (h : Heap) (L : List Loc) : Prop := v = some (.int (0 : Int32)) ∧ Fr n0 L ∧ h = h0
set_option maxRecDepth 65536 in
set_option maxHeartbeats 40000000 in
theorem rmE2 (l : Launch) (Z : State) (a0 : Array Value) (hw : ∀ d ∈ tables_1, d.before a0 Z = true) (ws : List Jvm.Cond) (a1 : Addr) (a2 : Addr) (b1 : Addr) (b2 : Addr) (k1 : ClassId) (k2 : ClassId) (cs : Int32) (h0 : Heap) (n0 : Nat) (O0 : Old Z n0 h0) (Sc : Sta Z h0 "java/lang/String" "COMPACT_STRINGS" "Z" (.int cs)) (hcs : ¬ cs = (0 : Int32)) (E2 : Exa Z h0 a2 "java/lang/String") (Fc1 : Fld Z h0 a1 "java/lang/String" "coder" "B" (.int (0 : Int32))) (Fv1 : Fld Z h0 a1 "java/lang/String" "value" "[B" (.ref b1)) (V1 : Arv Z h0 b1 k1 .byte (10 : Int32) [.int (110 : Int32), .int (111 : Int32), .int (116 : Int32), .int (32 : Int32), .int (108 : Int32), .int (111 : Int32), .int (97 : Int32), .int (100 : Int32), .int (101 : Int32), .int (100 : Int32)] (.int (0 : Int32))) (Fc2 : Fld Z h0 a2 "java/lang/String" "coder" "B" (.int (0 : Int32))) (Fv2 : Fld Z h0 a2 "java/lang/String" "value" "[B" (.ref b2)) (V2 : Arv Z h0 b2 k2 .byte (6 : Int32) [.int (116 : Int32), .int (104 : Int32), .int (114 : Int32), .int (111 : Int32), .int (119 : Int32), .int (110 : Int32)] (.int (0 : Int32))) :
    MetFree l (⟨"java/lang/String", "equals", "(Ljava/lang/Object;)Z"⟩ : MethodName) (head1 (Jvm.Cond.code (⟨"java/lang/String", "equals", "(Ljava/lang/Object;)Z"⟩ : MethodName) jdk_42_method_66_code 3 (some .boolean) :: ws) ({ frames := 1, cells := 0, slots := 0, locals := 14 } : Room)) (fun a U => a = #[(.ref a1), (.ref a2)] ∧ Z.Warmed39 U.vm ∧ U.heap = h0) (fun _ _ _ _ _ => True) (fun _ U o U' => ∃ v L, o = .returned v ∧ QE2 Z a1 a2 b1 b2 k1 k2 cs h0 n0 v U'.heap L ∧ FrameEnd U o U' L ({ frames := 1, cells := 0, slots := 0, locals := 14 } : Room).cells ({ frames := 1, cells := 0, slots := 0, locals := 14 } : Room).slots) := by
  refine MetFree.of_bodySF (plainFor_of_name pn_String) hisR ?_
  intro p e s m args below meth c s₁ Bd hml0 hP hK
  obtain ⟨rfl, hZ, hh⟩ := hP
  have hx := Bd.exec
  have hby := Bd.bytes
  have hlk : meth.locks = false := BodyLoose.notSynchronized Bd
  have hml : c.maxLocals = 3 := hml0
  have hown : s.vm.findClass "java/lang/String" = some m.cls := findClass_of_methodNamed Bd.named
  have hnm := (name_of_methodNamed Bd.named Bd.method).1
  have X0 : Stand p l e ({ frames := 1, cells := 0, slots := 0, locals := 14 } : Room) s m #[(.ref a1), (.ref a2)] below meth c s₁ [] 0 0 := Stand.of_body Bd
  have e0 : s₁.heap = h0 := by rw [← hh, Bd.state]; rfl
  have N0 := Fr.nil n0
  show Goes p e below s (QE2 Z a1 a2 b1 b2 k1 k2 cs h0 n0) ({ frames := 1, cells := 0, slots := 0, locals := 14 } : Room).cells ({ frames := 1, cells := 0, slots := 0, locals := 14 } : Room).slots (s₁.setTop (entryFrame m #[(.ref a1), (.ref a2)] 3))
  refine Goes.enter (g' := (mkF m 0 #[.val (.ref a1), .val (.ref a2), .unset] [])) (ef_rmE2 m a1 a2) ?_
  have nab : a1 ≠ a2 := Fld.ne Fv1 Fv2 (own_refne (own_neV V1 V2 (by decide)))
  refine Goes.step (B := s₁.setTop (mkF m 1 #[.val (.ref a1), .val (.ref a2), .unset] [(.ref a1)])) (fun _ k => XS.aloadN X0.here hx rfl (hb hby d3_0) rfl rfl k) ?_
  refine Goes.step (B := s₁.setTop (mkF m 2 #[.val (.ref a1), .val (.ref a2), .unset] [(.ref a2), (.ref a1)])) (fun _ k => XS.aloadN X0.here hx rfl (hb hby d3_1) rfl rfl k) ?_
  refine Goes.step (B := s₁.setTop (mkF m 7 #[.val (.ref a1), .val (.ref a2), .unset] [])) (fun _ k => Jvm.RoadKit.acmp (g := (mkF m 2 #[.val (.ref a1), .val (.ref a2), .unset] [(.ref a2), (.ref a1)])) X0 hx rfl rfl rfl (pc0 := 2) (pc' := 7) (same := false) rfl (hb hby d3_2) rfl (decide_eq_false fun q => nab (Value.ref.inj q)) (by decide) (by decide) k) ?_
  refine Goes.step (B := s₁.setTop (mkF m 8 #[.val (.ref a1), .val (.ref a2), .unset] [(.ref a2)])) (fun _ k => XS.aloadN X0.here hx rfl (hb hby d3_7) rfl rfl k) ?_
  obtain ⟨T1, X1, e1, st1⟩ := instY X0 hx hZ hown (hw _ (List.mem_of_getElem? (i := 33) rfl)) e0 (Ins.self E2) (g := (mkF m 8 #[.val (.ref a1), .val (.ref a2), .unset] [(.ref a2)])) rfl rfl (hb hby d3_8)
  refine Goes.step (B := T1.setTop (mkF m 11 #[.val (.ref a1), .val (.ref a2), .unset] [(.int (1 : Int32))])) st1 ?_
  refine Goes.step (B := T1.setTop (mkF m 14 #[.val (.ref a1), .val (.ref a2), .unset] [])) (fun _ k => XS.ifNo X1.here hx rfl (hb hby d3_11) rfl ((if0 _ _).trans (feq (by decide)).1) k) ?_
  refine Goes.step (B := T1.setTop (mkF m 15 #[.val (.ref a1), .val (.ref a2), .unset] [(.ref a2)])) (fun _ k => XS.aloadN X1.here hx rfl (hb hby d3_14) rfl rfl k) ?_
  obtain ⟨T2, X2, e2, st2⟩ := castY X1 hx hZ hown (hw _ (List.mem_of_getElem? (i := 33) rfl)) e1 (Ins.self E2) (g := (mkF m 15 #[.val (.ref a1), .val (.ref a2), .unset] [(.ref a2)])) rfl rfl (hb hby d3_15)
  refine Goes.step (B := T2.setTop (mkF m 18 #[.val (.ref a1), .val (.ref a2), .unset] [(.ref a2)])) st2 ?_
  refine Goes.step (B := T2.setTop (mkF m 19 #[.val (.ref a1), .val (.ref a2), .val (.ref a2)] [])) (fun _ k => XS.astoreN X2.here hx rfl (hb hby d3_18) rfl rfl (l' := #[.val (.ref a1), .val (.ref a2), .val (.ref a2)]) rfl k) ?_
  obtain ⟨T3, X3, e3, st3⟩ := getS2 X2 hx hZ hown (host := "") (Or.inl (hw _ (List.mem_of_getElem? (i := 35) rfl))) Via.refl e2 Sc (g := (mkF m 19 #[.val (.ref a1), .val (.ref a2), .val (.ref a2)] [])) rfl (hb hby d3_19)
  refine Goes.step (B := T3.setTop (mkF m 22 #[.val (.ref a1), .val (.ref a2), .val (.ref a2)] [(.int cs)])) st3 ?_
  refine Goes.step (B := T3.setTop (mkF m 25 #[.val (.ref a1), .val (.ref a2), .val (.ref a2)] [])) (fun _ k => XS.ifNo X3.here hx rfl (hb hby d3_22) rfl ((if0 _ _).trans (feq hcs).1) k) ?_
  refine Goes.step (B := T3.setTop (mkF m 26 #[.val (.ref a1), .val (.ref a2), .val (.ref a2)] [(.ref a1)])) (fun _ k => XS.aloadN X3.here hx rfl (hb hby d3_25) rfl rfl k) ?_
  obtain ⟨T4, X4, e4, st4⟩ := getF X3 hx hZ hown (host := "") (Or.inl (hw _ (List.mem_of_getElem? (i := 36) rfl))) Via.refl e3 Fc1 (g := (mkF m 26 #[.val (.ref a1), .val (.ref a2), .val (.ref a2)] [(.ref a1)])) rfl rfl (hb hby d3_26)
  refine Goes.step (B := T4.setTop (mkF m 29 #[.val (.ref a1), .val (.ref a2), .val (.ref a2)] [(.int (0 : Int32))])) st4 ?_
  refine Goes.step (B := T4.setTop (mkF m 30 #[.val (.ref a1), .val (.ref a2), .val (.ref a2)] [(.ref a2), (.int (0 : Int32))])) (fun _ k => XS.aloadN X4.here hx rfl (hb hby d3_29) rfl rfl k) ?_
  obtain ⟨T5, X5, e5, st5⟩ := getF X4 hx hZ hown (host := "") (Or.inl (hw _ (List.mem_of_getElem? (i := 36) rfl))) Via.refl e4 Fc2 (g := (mkF m 30 #[.val (.ref a1), .val (.ref a2), .val (.ref a2)] [(.ref a2), (.int (0 : Int32))])) rfl rfl (hb hby d3_30)
  refine Goes.step (B := T5.setTop (mkF m 33 #[.val (.ref a1), .val (.ref a2), .val (.ref a2)] [(.int (0 : Int32)), (.int (0 : Int32))])) st5 ?_
  refine Goes.step (B := T5.setTop (mkF m 36 #[.val (.ref a1), .val (.ref a2), .val (.ref a2)] [])) (fun _ k => XS.icmpNo X5.here hx rfl (hb hby d3_33) rfl (teq (by decide)).2 k) ?_
  refine Goes.step (B := T5.setTop (mkF m 37 #[.val (.ref a1), .val (.ref a2), .val (.ref a2)] [(.ref a1)])) (fun _ k => XS.aloadN X5.here hx rfl (hb hby d3_36) rfl rfl k) ?_
  obtain ⟨T6, X6, e6, st6⟩ := getF X5 hx hZ hown (host := "") (Or.inl (hw _ (List.mem_of_getElem? (i := 37) rfl))) Via.refl e5 Fv1 (g := (mkF m 37 #[.val (.ref a1), .val (.ref a2), .val (.ref a2)] [(.ref a1)])) rfl rfl (hb hby d3_37)
  refine Goes.step (B := T6.setTop (mkF m 40 #[.val (.ref a1), .val (.ref a2), .val (.ref a2)] [(.ref b1)])) st6 ?_
  refine Goes.step (B := T6.setTop (mkF m 41 #[.val (.ref a1), .val (.ref a2), .val (.ref a2)] [(.ref a2), (.ref b1)])) (fun _ k => XS.aloadN X6.here hx rfl (hb hby d3_40) rfl rfl k) ?_
  obtain ⟨T7, X7, e7, st7⟩ := getF X6 hx hZ hown (host := "") (Or.inl (hw _ (List.mem_of_getElem? (i := 37) rfl))) Via.refl e6 Fv2 (g := (mkF m 41 #[.val (.ref a1), .val (.ref a2), .val (.ref a2)] [(.ref a2), (.ref b1)])) rfl rfl (hb hby d3_41)
  refine Goes.step (B := T7.setTop (mkF m 44 #[.val (.ref a1), .val (.ref a2), .val (.ref a2)] [(.ref b2), (.ref b1)])) st7 ?_
  obtain ⟨_, _, ⟨T8, L8, k8, n8⟩, -, X8, ⟨Lc8, hQ8, l8, y8, z8⟩, st8⟩ := Jvm.LawKit.callS X7 hx (y := (⟨"java/lang/StringLatin1", "equals", "([B[B)Z"⟩ : MethodName)) hown (mvT hZ (hw _ (List.mem_of_getElem? (i := 38) rfl))) (mvT hZ (hw _ (List.mem_of_getElem? (i := 39) rfl))) (mvT hZ (hw _ (List.mem_of_getElem? (i := 40) rfl))) (mvT hZ (hw _ (List.mem_of_getElem? (i := 41) rfl))) (by decide) (backOf (W := 0) (rmL2 l Z a0 hw [] b1 b2 k1 k2 h0 n0 O0 V1 V2) hZ (hw _ (List.mem_of_getElem? (i := 41) rfl)) (hw _ (List.mem_of_getElem? (i := 40) rfl)) (by decide) (by decide)) (g := (mkF m 44 #[.val (.ref a1), .val (.ref a2), .val (.ref a2)] [(.ref b2), (.ref b1)])) rfl (by rw [hml]; rfl) (argsL := [(.ref b1), (.ref b2)]) (rest := []) (lenOf pd_0 rfl) rfl (by show 2 * 0 + _ ≤ _; exact Nat.le_of_eq rfl) (hb hby d3_44) (fun _ _ => ⟨rfl, e7, (by decide : 0 + 0 ≤ _), (by decide : 0 + 0 ≤ _)⟩)
  dsimp only [Pt.U, Pt.locs, Pt.cells, Pt.slots] at X8 l8 y8 z8 st8 hQ8
  subst l8 y8 z8
  obtain ⟨rfl, Nq8, eh8⟩ := hQ8
  have N8 := Fr.app N0 Nq8
  refine Goes.step (B := T8.setTop (mkF m 47 #[.val (.ref a1), .val (.ref a2), .val (.ref a2)] [(.int (0 : Int32))])) st8 ?_
  refine Goes.step (B := T8.setTop (mkF m 54 #[.val (.ref a1), .val (.ref a2), .val (.ref a2)] [])) (fun _ k => XS.ifYes X8.here hx rfl (pc0 := 47) (pc' := 54) rfl (hb hby d3_47) rfl ((if0 _ _).trans (teq (by decide)).1) (by decide) (by decide) k) ?_
  refine Goes.step (B := T8.setTop (mkF m 55 #[.val (.ref a1), .val (.ref a2), .val (.ref a2)] [(.int (0 : Int32))])) (fun _ k => XS.iconst X8.here hx rfl (hb hby d3_54) k) ?_
  exact Goes.retN X8 hx eh8 (t := .boolean) Bd.returns (by simp) hlk (hb hby d3_55) (by decide) (by decide) (⟨rfl, N8, rfl⟩)
theorem pd_1 : parseMethodDescriptor "()Z" = some ⟨[], some .boolean⟩ := by decide +kernel
theorem own_wS {Z : State} {a0 : Array Value} (hw : ∀ d ∈ tables_1, d.before a0 Z = true) : ∀ a ∈ Bundle.stringAtoms, a.before a0 Z = true := fun d hd => by
  simp only [Bundle.stringAtoms, List.mem_cons, List.not_mem_nil, or_false] at hd
  rcases hd with rfl | rfl | rfl | rfl | rfl | rfl | rfl
  · exact (hw _ (List.mem_of_getElem? (i := 13) rfl))
  · exact (hw _ (List.mem_of_getElem? (i := 14) rfl))
  · exact (hw _ (List.mem_of_getElem? (i := 15) rfl))
  · exact (hw _ (List.mem_of_getElem? (i := 16) rfl))
  · exact (hw _ (List.mem_of_getElem? (i := 17) rfl))
  · exact (hw _ (List.mem_of_getElem? (i := 18) rfl))
  · exact (hw _ (List.mem_of_getElem? (i := 19) rfl))
theorem pd_2 : parseMethodDescriptor "()Ljava/lang/String;" = some ⟨[], some (.object "java/lang/String")⟩ := by decide +kernel
theorem pd_3 : parseMethodDescriptor "(Ljava/lang/Object;)Z" = some ⟨[(.object "java/lang/Object")], some .boolean⟩ := by decide +kernel
theorem pn_LoadingReloadsPinLaw : plainName "com/example/roundkeeper/roundkeeper/rulesets/sealedorders/LoadingReloadsPinLaw" = true := by first | (simp [plainName, overriddenIn]; done) | decide +kernel
theorem ef_rm0 (m : MethodId) (x0 : Int32) : entryFrame m #[(.int x0)] maxLocals = mkF m 0 #[.val (.int x0), .unset, .unset, .unset, .unset] [] := by first | (simp [entryFrame, mkF, argsToLocals, Value.category, maxLocals]; done) | rfl
def Q0 (Z : State) (i0 : Int32) (a_NONE : Addr) (a_QUICK_RELOAD : Addr) (a_COMPLEX_RELOAD : Addr) (a_COMPLEX_RELOAD_spent : Addr) (a_COMPLEX_RELOAD_spent_value : Addr) (a_THROWN : Addr) (a_THROWN_spent : Addr) (a_THROWN_spent_value : Addr) (k_COMPLEX_RELOAD_spent_value : ClassId) (k_THROWN_spent_value : ClassId) (cs : Int32) (h0 : Heap) (n0 : Nat) (v : Option Value) (h : Heap) (L : List Loc) : Prop := v = some (.int 1) ∧ Fr n0 L
set_option maxRecDepth 65536 in
set_option maxHeartbeats 40000000 in
theorem rm0 (l : Launch) (Z : State) (a0 : Array Value) (hw : ∀ d ∈ tables_1, d.before a0 Z = true) (ws : List Jvm.Cond) (i0 : Int32) (a_NONE : Addr) (a_QUICK_RELOAD : Addr) (a_COMPLEX_RELOAD : Addr) (a_COMPLEX_RELOAD_spent : Addr) (a_COMPLEX_RELOAD_spent_value : Addr) (a_THROWN : Addr) (a_THROWN_spent : Addr) (a_THROWN_spent_value : Addr) (k_COMPLEX_RELOAD_spent_value : ClassId) (k_THROWN_spent_value : ClassId) (cs : Int32) (h0 : Heap) (n0 : Nat) (O0 : Old Z n0 h0) (FS : OwnSt Z a_NONE a_QUICK_RELOAD a_COMPLEX_RELOAD a_COMPLEX_RELOAD_spent a_COMPLEX_RELOAD_spent_value a_THROWN a_THROWN_spent a_THROWN_spent_value k_COMPLEX_RELOAD_spent_value k_THROWN_spent_value cs) :
    MetFree l x (head1 (Jvm.Cond.code x code maxLocals ret :: ws) room_1) (fun a U => a = #[(.int i0)] ∧ Z.Warmed39 U.vm ∧ U.heap = h0 ∧ CHv Z own_EL U.vm h0) (fun _ _ _ _ _ => True) (fun _ U o U' => ∃ v L, o = .returned v ∧ Q0 Z i0 a_NONE a_QUICK_RELOAD a_COMPLEX_RELOAD a_COMPLEX_RELOAD_spent a_COMPLEX_RELOAD_spent_value a_THROWN a_THROWN_spent a_THROWN_spent_value k_COMPLEX_RELOAD_spent_value k_THROWN_spent_value cs h0 n0 v U'.heap L ∧ ReturnedEndW U o U' L room_1.cells room_1.slots) := by
  refine MetFree.of_bodySF (plainFor_of_name pn_LoadingReloadsPinLaw) hisR ?_
  intro p e s m args below meth c s₁ Bd hml0 hP hK
  obtain ⟨rfl, hZ, hh, hH0⟩ := hP
  have hx := Bd.exec
  have hby := Bd.bytes
  have hlk : meth.locks = false := BodyLoose.notSynchronized Bd
  have hml : c.maxLocals = 5 := hml0
  have hown : s.vm.findClass "com/example/roundkeeper/roundkeeper/rulesets/sealedorders/LoadingReloadsPinLaw" = some m.cls := findClass_of_methodNamed Bd.named
  have hnm := (name_of_methodNamed Bd.named Bd.method).1
  have X0 : Stand p l e room_1 (s.setVm s.vm) m #[(.int i0)] below meth c s₁ [] 0 0 := Stand.of_body Bd
  have e0 : s₁.heap = h0 := by rw [← hh, Bd.state]; rfl
  have N0 := Fr.nil n0
  have hS0 : s.Since s.vm h0.size := (State.WarmedH.refl s).since _
  show GoesW p e below s (Q0 Z i0 a_NONE a_QUICK_RELOAD a_COMPLEX_RELOAD a_COMPLEX_RELOAD_spent a_COMPLEX_RELOAD_spent_value a_THROWN a_THROWN_spent a_THROWN_spent_value k_COMPLEX_RELOAD_spent_value k_THROWN_spent_value cs h0 n0) room_1.cells room_1.slots (s₁.setTop (entryFrame m #[(.int i0)] maxLocals))
  refine GoesW.enter (g' := (mkF m 0 #[.val (.int i0), .unset, .unset, .unset, .unset] [])) (ef_rm0 m i0) ?_
  have FS0 := FS
  obtain ⟨S_NONE, E_NONE, S_QUICK_RELOAD, E_QUICK_RELOAD, F_NONE_ordinal, F_QUICK_RELOAD_ordinal, S_COMPLEX_RELOAD, E_COMPLEX_RELOAD, F_COMPLEX_RELOAD_ordinal, F_NONE_spent, F_COMPLEX_RELOAD_spent, E_COMPLEX_RELOAD_spent, F_COMPLEX_RELOAD_spent_coder, F_COMPLEX_RELOAD_spent_value, F_QUICK_RELOAD_spent, S_THROWN, E_THROWN, F_THROWN_ordinal, F_THROWN_spent, E_THROWN_spent, F_THROWN_spent_coder, F_THROWN_spent_value, V_COMPLEX_RELOAD_spent_value, V_THROWN_spent_value, S_COMPACT_STRINGS, hcs⟩ := FS0
  have ne_a_NONE_a_QUICK_RELOAD : a_NONE ≠ a_QUICK_RELOAD := Fld.ne F_NONE_ordinal F_QUICK_RELOAD_ordinal (by decide)
  have ne_a_NONE_a_COMPLEX_RELOAD : a_NONE ≠ a_COMPLEX_RELOAD := Fld.ne F_NONE_ordinal F_COMPLEX_RELOAD_ordinal (by decide)
  have ne_a_NONE_a_THROWN : a_NONE ≠ a_THROWN := Fld.ne F_NONE_ordinal F_THROWN_ordinal (by decide)
  have ne_a_QUICK_RELOAD_a_COMPLEX_RELOAD : a_QUICK_RELOAD ≠ a_COMPLEX_RELOAD := Fld.ne F_QUICK_RELOAD_ordinal F_COMPLEX_RELOAD_ordinal (by decide)
  have ne_a_QUICK_RELOAD_a_THROWN : a_QUICK_RELOAD ≠ a_THROWN := Fld.ne F_QUICK_RELOAD_ordinal F_THROWN_ordinal (by decide)
  have ne_a_COMPLEX_RELOAD_a_THROWN : a_COMPLEX_RELOAD ≠ a_THROWN := Fld.ne F_COMPLEX_RELOAD_ordinal F_THROWN_ordinal (by decide)
  refine GoesW.step (B := s₁.setTop (mkF m 1 #[.val (.int i0), .unset, .unset, .unset, .unset] [(.int i0)])) (fun _ k => XS.iloadN X0.here hx rfl (hb hby at_0) rfl k) ?_
  refine GoesW.step (B := s₁.setTop (mkF m 2 #[.val (.int i0), .unset, .unset, .unset, .unset] [(.int (3 : Int32)), (.int i0)])) (fun _ k => XS.iconst X0.here hx rfl (hb hby at_1) k) ?_
  refine GoesW.step (B := s₁.setTop (mkF m 3 #[.val (.int i0), .unset, .unset, .unset, .unset] [(.int (i0 &&& (3 : Int32)))])) (fun _ k => XS.iand X0.here hx rfl (hb hby at_2) rfl k) ?_
  obtain ⟨iv, hiv⟩ : ∃ z, z = (i0 &&& (3 : Int32)) := ⟨_, rfl⟩
  rw [← hiv]
  rcases own_m3 hiv with rfl | rfl | rfl | rfl
  · refine GoesW.step (B := s₁.setTop (mkF m 4 #[.val (.int i0), .val (.int (0 : Int32)), .unset, .unset, .unset] [])) (fun _ k => XS.istoreN X0.here hx rfl (hb hby at_3) rfl (l' := #[.val (.int i0), .val (.int (0 : Int32)), .unset, .unset, .unset]) rfl k) ?_
    refine GoesW.step (B := s₁.setTop (mkF m 5 #[.val (.int i0), .val (.int (0 : Int32)), .unset, .unset, .unset] [(.int (0 : Int32))])) (fun _ k => XS.iloadN X0.here hx rfl (hb hby at_4) rfl k) ?_
    refine GoesW.step (B := s₁.setTop (mkF m 8 #[.val (.int i0), .val (.int (0 : Int32)), .unset, .unset, .unset] [])) (fun _ k => XS.ifNo X0.here hx rfl (hb hby at_5) rfl ((if0 _ _).trans (teq (by decide)).2) k) ?_
    have f1 := S_NONE.ext O0.2
    obtain ⟨T2, X2, e2, st2⟩ := getS2 X0 hx hZ hown (host := "") (Or.inl (hw _ (List.mem_of_getElem? (i := 0) rfl))) Via.refl e0 f1 (g := (mkF m 8 #[.val (.int i0), .val (.int (0 : Int32)), .unset, .unset, .unset] [])) rfl (hb hby at_8)
    refine GoesW.step (B := T2.setTop (mkF m 11 #[.val (.int i0), .val (.int (0 : Int32)), .unset, .unset, .unset] [(.ref a_NONE)])) st2 ?_
    refine GoesW.step (B := T2.setTop (mkF m 12 #[.val (.int i0), .val (.int (0 : Int32)), .val (.ref a_NONE), .unset, .unset] [])) (fun _ k => XS.astoreN X2.here hx rfl (hb hby at_11) rfl rfl (l' := #[.val (.int i0), .val (.int (0 : Int32)), .val (.ref a_NONE), .unset, .unset]) rfl k) ?_
    refine GoesW.step (B := T2.setTop (mkF m 13 #[.val (.int i0), .val (.int (0 : Int32)), .val (.ref a_NONE), .unset, .unset] [(.int (0 : Int32))])) (fun _ k => XS.iconst X2.here hx rfl (hb hby at_12) k) ?_
    refine GoesW.step (B := T2.setTop (mkF m 14 #[.val (.int i0), .val (.int (0 : Int32)), .val (.ref a_NONE), .val (.int (0 : Int32)), .unset] [])) (fun _ k => XS.istoreN X2.here hx rfl (hb hby at_13) rfl (l' := #[.val (.int i0), .val (.int (0 : Int32)), .val (.ref a_NONE), .val (.int (0 : Int32)), .unset]) rfl k) ?_
    refine GoesW.step (B := T2.setTop (mkF m 51 #[.val (.int i0), .val (.int (0 : Int32)), .val (.ref a_NONE), .val (.int (0 : Int32)), .unset] [])) (fun _ k => XS.goto X2.here hx rfl (pc0 := 14) (pc' := 51) rfl (hb hby at_14) (by decide) (by decide) k) ?_
    refine GoesW.step (B := T2.setTop (mkF m 52 #[.val (.int i0), .val (.int (0 : Int32)), .val (.ref a_NONE), .val (.int (0 : Int32)), .unset] [(.ref a_NONE)])) (fun _ k => XS.aloadN X2.here hx rfl (hb hby at_51) rfl rfl k) ?_
    have f4 := E_NONE.ext O0.2
    obtain ⟨cq3, kq3, qa3, qb3, qc3⟩ := isOf hZ e2 f4
    obtain ⟨_, _, ⟨T3, L3, k3, n3⟩, -, X3, ⟨Lc3, hQ3, l3, y3, z3⟩, st3⟩ := X2.virtualBack hx (y := (⟨"com/example/roundkeeper/roundkeeper/rulesets/sealedorders/Weapon$Loading", "reloads", "()Z"⟩ : MethodName)) (z := (⟨"com/example/roundkeeper/roundkeeper/rulesets/sealedorders/Weapon$Loading", "reloads", "()Z"⟩ : MethodName)) hown (mvT hZ (hw _ (List.mem_of_getElem? (i := 3) rfl))) (mvT hZ (hw _ (List.mem_of_getElem? (i := 4) rfl))) (notFace_of_selects (args := #[]) (mvT hZ (hw _ (List.mem_of_getElem? (i := 6) rfl)))) (mvT hZ (hw _ (List.mem_of_getElem? (i := 6) rfl))) (mvT hZ (hw _ (List.mem_of_getElem? (i := 5) rfl))) (by decide) (backOf (W := 0) (rm1 l Z a0 hw [] a_NONE a_NONE a_QUICK_RELOAD a_COMPLEX_RELOAD a_COMPLEX_RELOAD_spent a_COMPLEX_RELOAD_spent_value a_THROWN a_THROWN_spent a_THROWN_spent_value k_COMPLEX_RELOAD_spent_value k_THROWN_spent_value cs h0 n0 O0 FS) hZ (hw _ (List.mem_of_getElem? (i := 7) rfl)) (hw _ (List.mem_of_getElem? (i := 1) rfl)) (by decide) (by decide)) qa3 qc3 (g := (mkF m 52 #[.val (.int i0), .val (.int (0 : Int32)), .val (.ref a_NONE), .val (.int (0 : Int32)), .unset] [(.ref a_NONE)])) rfl (by rw [hml]; rfl) (Steps.refl _) (argsL := []) (rest := []) (lenOf pd_1 rfl) rfl (by show 2 * 0 + _ ≤ _; exact Nat.le_of_eq rfl) (hb hby at_52) (fun _ _ => ⟨rfl, e2, (by decide : 0 + 0 ≤ _), (by decide : 0 + 0 ≤ _)⟩)
    dsimp only [Pt.U, Pt.locs, Pt.cells, Pt.slots] at X3 l3 y3 z3 st3 hQ3
    subst l3 y3 z3
    obtain ⟨rfl, Nq3, eh3⟩ := hQ3
    have N3 := Fr.app N0 Nq3
    refine GoesW.via (B := T3.setTop (mkF m 55 #[.val (.int i0), .val (.int (0 : Int32)), .val (.ref a_NONE), .val (.int (0 : Int32)), .unset] [(.int (own_rel a_NONE a_QUICK_RELOAD a_COMPLEX_RELOAD))])) st3 ?_
    rw [((by unfold own_rel; rw [if_neg ne_a_NONE_a_QUICK_RELOAD, if_neg ne_a_NONE_a_COMPLEX_RELOAD]) : (own_rel a_NONE a_QUICK_RELOAD a_COMPLEX_RELOAD) = (0 : Int32))]
    refine GoesW.step (B := T3.setTop (mkF m 57 #[.val (.int i0), .val (.int (0 : Int32)), .val (.ref a_NONE), .val (.int (0 : Int32)), .val (.int (0 : Int32))] [])) (fun _ k => XS.istore X3.here hx rfl (hb hby at_55) rfl (l' := #[.val (.int i0), .val (.int (0 : Int32)), .val (.ref a_NONE), .val (.int (0 : Int32)), .val (.int (0 : Int32))]) rfl k) ?_
    refine GoesW.step (B := T3.setTop (mkF m 59 #[.val (.int i0), .val (.int (0 : Int32)), .val (.ref a_NONE), .val (.int (0 : Int32)), .val (.int (0 : Int32))] [(.int (0 : Int32))])) (fun _ k => XS.iload X3.here hx rfl (hb hby at_57) rfl k) ?_
    refine GoesW.step (B := T3.setTop (mkF m 60 #[.val (.int i0), .val (.int (0 : Int32)), .val (.ref a_NONE), .val (.int (0 : Int32)), .val (.int (0 : Int32))] [(.int (0 : Int32)), (.int (0 : Int32))])) (fun _ k => XS.iloadN X3.here hx rfl (hb hby at_59) rfl k) ?_
    refine GoesW.step (B := T3.setTop (mkF m 63 #[.val (.int i0), .val (.int (0 : Int32)), .val (.ref a_NONE), .val (.int (0 : Int32)), .val (.int (0 : Int32))] [])) (fun _ k => XS.icmpNo X3.here hx rfl (hb hby at_60) rfl (teq (by decide)).2 k) ?_
    refine GoesW.step (B := T3.setTop (mkF m 65 #[.val (.int i0), .val (.int (0 : Int32)), .val (.ref a_NONE), .val (.int (0 : Int32)), .val (.int (0 : Int32))] [(.int (0 : Int32))])) (fun _ k => XS.iload X3.here hx rfl (hb hby at_63) rfl k) ?_
    obtain ⟨b5, T5, h5, k5, v5, c5, X5, e5, E5, hS5, hk5, hZ5, hown5, Ea5, Fc5, Fv5, Va5, la5, lb5, H5, I5, Sf5, st5⟩ := ldcCH X3 hx hZ hown (hw _ (List.mem_of_getElem? (i := 12) rfl)) (own_wS hw) eh3 hS0 (Nat.le_refl _) (own_EW hw) (List.mem_of_getElem? (i := 0) rfl) (CHr.refl hH0).1 (vs := [.int (110 : Int32), .int (111 : Int32), .int (116 : Int32), .int (32 : Int32), .int (108 : Int32), .int (111 : Int32), .int (97 : Int32), .int (100 : Int32), .int (101 : Int32), .int (100 : Int32)]) (z := (10 : Int32)) ⟨by decide, by decide⟩ (by decide) (by decide) (g := (mkF m 65 #[.val (.int i0), .val (.int (0 : Int32)), .val (.ref a_NONE), .val (.int (0 : Int32)), .val (.int (0 : Int32))] [(.int (0 : Int32))])) rfl (hb hby at_65) (n := 40) (by decide) (by decide) (by decide) (by decide)
    have O_5 := O0.ext E5
    have CH5 := ((CHr.refl hH0).trans H5)
    refine GoesW.step (B := T5.setTop (mkF m 67 #[.val (.int i0), .val (.int (0 : Int32)), .val (.ref a_NONE), .val (.int (0 : Int32)), .val (.int (0 : Int32))] [(.ref b5), (.int (0 : Int32))])) st5 ?_
    refine GoesW.step (B := T5.setTop (mkF m 68 #[.val (.int i0), .val (.int (0 : Int32)), .val (.ref a_NONE), .val (.int (0 : Int32)), .val (.int (0 : Int32))] [(.ref a_NONE), (.ref b5), (.int (0 : Int32))])) (fun _ k => XS.aloadN X5.here hx rfl (hb hby at_67) rfl rfl k) ?_
    have f7 := F_NONE_spent.ext O_5.2
    have f8 := E_NONE.ext O_5.2
    obtain ⟨cq6, kq6, qa6, qb6, qc6⟩ := isOf hZ5 e5 f8
    obtain ⟨_, _, ⟨T6, L6, k6, n6⟩, -, X6, ⟨Lc6, hQ6, l6, y6, z6⟩, st6⟩ := X5.virtualBack hx (y := (⟨"com/example/roundkeeper/roundkeeper/rulesets/sealedorders/Weapon$Loading", "spent", "()Ljava/lang/String;"⟩ : MethodName)) (z := (⟨"com/example/roundkeeper/roundkeeper/rulesets/sealedorders/Weapon$Loading", "spent", "()Ljava/lang/String;"⟩ : MethodName)) hown5 (mvT hZ5 (hw _ (List.mem_of_getElem? (i := 20) rfl))) (mvT hZ5 (hw _ (List.mem_of_getElem? (i := 21) rfl))) (notFace_of_selects (args := #[]) (mvT hZ5 (hw _ (List.mem_of_getElem? (i := 23) rfl)))) (mvT hZ5 (hw _ (List.mem_of_getElem? (i := 23) rfl))) (mvT hZ5 (hw _ (List.mem_of_getElem? (i := 22) rfl))) (by decide) (backOf (W := 2) (rmsN l Z a0 hw [] a_NONE h5 n0 O_5 f7) hZ5 (hw _ (List.mem_of_getElem? (i := 24) rfl)) (hw _ (List.mem_of_getElem? (i := 1) rfl)) (by decide) (by decide)) qa6 qc6 (g := (mkF m 68 #[.val (.int i0), .val (.int (0 : Int32)), .val (.ref a_NONE), .val (.int (0 : Int32)), .val (.int (0 : Int32))] [(.ref a_NONE), (.ref b5), (.int (0 : Int32))])) rfl (by rw [hml]; rfl) (Steps.refl _) (argsL := []) (rest := [(.ref b5), (.int (0 : Int32))]) (lenOf pd_2 rfl) rfl (by show 2 * 0 + _ ≤ _; exact Nat.le_of_eq rfl) (hb hby at_68) (fun _ _ => ⟨rfl, e5, (by decide : 2 + 0 ≤ _), (by decide : 44 + 0 ≤ _)⟩)
    dsimp only [Pt.U, Pt.locs, Pt.cells, Pt.slots] at X6 l6 y6 z6 st6 hQ6
    subst l6 y6 z6
    obtain ⟨rfl, Nq6, eh6⟩ := hQ6
    have N6 := Fr.app N3 Nq6
    refine GoesW.via (B := T6.setTop (mkF m 71 #[.val (.int i0), .val (.int (0 : Int32)), .val (.ref a_NONE), .val (.int (0 : Int32)), .val (.int (0 : Int32))] [.null, (.ref b5), (.int (0 : Int32))])) st6 ?_
    obtain ⟨cq9, kq9, qa9, qb9, qc9⟩ := isOf hZ5 eh6 Ea5
    obtain ⟨_, _, ⟨T9, L9, k9, n9⟩, -, X9, ⟨Lc9, hQ9, l9, y9, z9⟩, st9⟩ := X6.virtualBack hx (y := (⟨"java/lang/String", "equals", "(Ljava/lang/Object;)Z"⟩ : MethodName)) (z := (⟨"java/lang/String", "equals", "(Ljava/lang/Object;)Z"⟩ : MethodName)) hown5 (mvT hZ5 (hw _ (List.mem_of_getElem? (i := 27) rfl))) (mvT hZ5 (hw _ (List.mem_of_getElem? (i := 28) rfl))) (notFace_of_selects (args := #[]) (mvT hZ5 (hw _ (List.mem_of_getElem? (i := 30) rfl)))) (mvT hZ5 (hw _ (List.mem_of_getElem? (i := 30) rfl))) (mvT hZ5 (hw _ (List.mem_of_getElem? (i := 29) rfl))) (by decide) (backOf (W := 1) (rmE0 l Z a0 hw [] b5 h5 n0 O_5 ) hZ5 (hw _ (List.mem_of_getElem? (i := 31) rfl)) (hw _ (List.mem_of_getElem? (i := 13) rfl)) (by decide) (by decide)) qa9 qc9 (g := (mkF m 71 #[.val (.int i0), .val (.int (0 : Int32)), .val (.ref a_NONE), .val (.int (0 : Int32)), .val (.int (0 : Int32))] [.null, (.ref b5), (.int (0 : Int32))])) rfl (by rw [hml]; rfl) (Steps.refl _) (argsL := [.null]) (rest := [(.int (0 : Int32))]) (lenOf pd_3 rfl) rfl (by show 2 * 0 + _ ≤ _; exact Nat.le_of_eq rfl) (hb hby at_71) (fun _ _ => ⟨rfl, eh6, (by decide : 2 + 0 ≤ _), (by decide : 44 + 0 ≤ _)⟩)
    dsimp only [Pt.U, Pt.locs, Pt.cells, Pt.slots] at X9 l9 y9 z9 st9 hQ9
    subst l9 y9 z9
    obtain ⟨rfl, Nq9, eh9⟩ := hQ9
    have N9 := Fr.app N6 Nq9
    refine GoesW.via (B := T9.setTop (mkF m 74 #[.val (.int i0), .val (.int (0 : Int32)), .val (.ref a_NONE), .val (.int (0 : Int32)), .val (.int (0 : Int32))] [(.int (0 : Int32)), (.int (0 : Int32))])) st9 ?_
    refine GoesW.step (B := T9.setTop (mkF m 77 #[.val (.int i0), .val (.int (0 : Int32)), .val (.ref a_NONE), .val (.int (0 : Int32)), .val (.int (0 : Int32))] [])) (fun _ k => XS.icmpNo X9.here hx rfl (hb hby at_74) rfl (teq (by decide)).2 k) ?_
    refine GoesW.step (B := T9.setTop (mkF m 78 #[.val (.int i0), .val (.int (0 : Int32)), .val (.ref a_NONE), .val (.int (0 : Int32)), .val (.int (0 : Int32))] [(.int (1 : Int32))])) (fun _ k => XS.iconst X9.here hx rfl (hb hby at_77) k) ?_
    refine GoesW.step (B := T9.setTop (mkF m 82 #[.val (.int i0), .val (.int (0 : Int32)), .val (.ref a_NONE), .val (.int (0 : Int32)), .val (.int (0 : Int32))] [(.int (1 : Int32))])) (fun _ k => XS.goto X9.here hx rfl (pc0 := 78) (pc' := 82) rfl (hb hby at_78) (by decide) (by decide) k) ?_
    exact GoesW.retN X9 hS5 hk5 hx eh9 (t := .boolean) Bd.returns (by simp) hlk (hb hby at_82) (by decide) (by decide) (⟨rfl, N9⟩)
  · refine GoesW.step (B := s₁.setTop (mkF m 4 #[.val (.int i0), .val (.int (1 : Int32)), .unset, .unset, .unset] [])) (fun _ k => XS.istoreN X0.here hx rfl (hb hby at_3) rfl (l' := #[.val (.int i0), .val (.int (1 : Int32)), .unset, .unset, .unset]) rfl k) ?_
    refine GoesW.step (B := s₁.setTop (mkF m 5 #[.val (.int i0), .val (.int (1 : Int32)), .unset, .unset, .unset] [(.int (1 : Int32))])) (fun _ k => XS.iloadN X0.here hx rfl (hb hby at_4) rfl k) ?_
    refine GoesW.step (B := s₁.setTop (mkF m 17 #[.val (.int i0), .val (.int (1 : Int32)), .unset, .unset, .unset] [])) (fun _ k => XS.ifYes X0.here hx rfl (pc0 := 5) (pc' := 17) rfl (hb hby at_5) rfl ((if0 _ _).trans (feq (by decide)).2) (by decide) (by decide) k) ?_
    refine GoesW.step (B := s₁.setTop (mkF m 18 #[.val (.int i0), .val (.int (1 : Int32)), .unset, .unset, .unset] [(.int (1 : Int32))])) (fun _ k => XS.iloadN X0.here hx rfl (hb hby at_17) rfl k) ?_
    refine GoesW.step (B := s₁.setTop (mkF m 19 #[.val (.int i0), .val (.int (1 : Int32)), .unset, .unset, .unset] [(.int (1 : Int32)), (.int (1 : Int32))])) (fun _ k => XS.iconst X0.here hx rfl (hb hby at_18) k) ?_
    refine GoesW.step (B := s₁.setTop (mkF m 22 #[.val (.int i0), .val (.int (1 : Int32)), .unset, .unset, .unset] [])) (fun _ k => XS.icmpNo X0.here hx rfl (hb hby at_19) rfl (teq (by decide)).2 k) ?_
    have f10 := S_THROWN.ext O0.2
    obtain ⟨T11, X11, e11, st11⟩ := getS2 X0 hx hZ hown (host := "") (Or.inl (hw _ (List.mem_of_getElem? (i := 43) rfl))) Via.refl e0 f10 (g := (mkF m 22 #[.val (.int i0), .val (.int (1 : Int32)), .unset, .unset, .unset] [])) rfl (hb hby at_22)
    refine GoesW.step (B := T11.setTop (mkF m 25 #[.val (.int i0), .val (.int (1 : Int32)), .unset, .unset, .unset] [(.ref a_THROWN)])) st11 ?_
    refine GoesW.step (B := T11.setTop (mkF m 26 #[.val (.int i0), .val (.int (1 : Int32)), .val (.ref a_THROWN), .unset, .unset] [])) (fun _ k => XS.astoreN X11.here hx rfl (hb hby at_25) rfl rfl (l' := #[.val (.int i0), .val (.int (1 : Int32)), .val (.ref a_THROWN), .unset, .unset]) rfl k) ?_
    refine GoesW.step (B := T11.setTop (mkF m 27 #[.val (.int i0), .val (.int (1 : Int32)), .val (.ref a_THROWN), .unset, .unset] [(.int (0 : Int32))])) (fun _ k => XS.iconst X11.here hx rfl (hb hby at_26) k) ?_
    refine GoesW.step (B := T11.setTop (mkF m 28 #[.val (.int i0), .val (.int (1 : Int32)), .val (.ref a_THROWN), .val (.int (0 : Int32)), .unset] [])) (fun _ k => XS.istoreN X11.here hx rfl (hb hby at_27) rfl (l' := #[.val (.int i0), .val (.int (1 : Int32)), .val (.ref a_THROWN), .val (.int (0 : Int32)), .unset]) rfl k) ?_
    refine GoesW.step (B := T11.setTop (mkF m 51 #[.val (.int i0), .val (.int (1 : Int32)), .val (.ref a_THROWN), .val (.int (0 : Int32)), .unset] [])) (fun _ k => XS.goto X11.here hx rfl (pc0 := 28) (pc' := 51) rfl (hb hby at_28) (by decide) (by decide) k) ?_
    refine GoesW.step (B := T11.setTop (mkF m 52 #[.val (.int i0), .val (.int (1 : Int32)), .val (.ref a_THROWN), .val (.int (0 : Int32)), .unset] [(.ref a_THROWN)])) (fun _ k => XS.aloadN X11.here hx rfl (hb hby at_51) rfl rfl k) ?_
    have f13 := E_THROWN.ext O0.2
    obtain ⟨cq12, kq12, qa12, qb12, qc12⟩ := isOf hZ e11 f13
    obtain ⟨_, _, ⟨T12, L12, k12, n12⟩, -, X12, ⟨Lc12, hQ12, l12, y12, z12⟩, st12⟩ := X11.virtualBack hx (y := (⟨"com/example/roundkeeper/roundkeeper/rulesets/sealedorders/Weapon$Loading", "reloads", "()Z"⟩ : MethodName)) (z := (⟨"com/example/roundkeeper/roundkeeper/rulesets/sealedorders/Weapon$Loading", "reloads", "()Z"⟩ : MethodName)) hown (mvT hZ (hw _ (List.mem_of_getElem? (i := 3) rfl))) (mvT hZ (hw _ (List.mem_of_getElem? (i := 4) rfl))) (notFace_of_selects (args := #[]) (mvT hZ (hw _ (List.mem_of_getElem? (i := 6) rfl)))) (mvT hZ (hw _ (List.mem_of_getElem? (i := 6) rfl))) (mvT hZ (hw _ (List.mem_of_getElem? (i := 5) rfl))) (by decide) (backOf (W := 0) (rm1 l Z a0 hw [] a_THROWN a_NONE a_QUICK_RELOAD a_COMPLEX_RELOAD a_COMPLEX_RELOAD_spent a_COMPLEX_RELOAD_spent_value a_THROWN a_THROWN_spent a_THROWN_spent_value k_COMPLEX_RELOAD_spent_value k_THROWN_spent_value cs h0 n0 O0 FS) hZ (hw _ (List.mem_of_getElem? (i := 7) rfl)) (hw _ (List.mem_of_getElem? (i := 1) rfl)) (by decide) (by decide)) qa12 qc12 (g := (mkF m 52 #[.val (.int i0), .val (.int (1 : Int32)), .val (.ref a_THROWN), .val (.int (0 : Int32)), .unset] [(.ref a_THROWN)])) rfl (by rw [hml]; rfl) (Steps.refl _) (argsL := []) (rest := []) (lenOf pd_1 rfl) rfl (by show 2 * 0 + _ ≤ _; exact Nat.le_of_eq rfl) (hb hby at_52) (fun _ _ => ⟨rfl, e11, (by decide : 0 + 0 ≤ _), (by decide : 0 + 0 ≤ _)⟩)
    dsimp only [Pt.U, Pt.locs, Pt.cells, Pt.slots] at X12 l12 y12 z12 st12 hQ12
    subst l12 y12 z12
    obtain ⟨rfl, Nq12, eh12⟩ := hQ12
    have N12 := Fr.app N0 Nq12
    refine GoesW.via (B := T12.setTop (mkF m 55 #[.val (.int i0), .val (.int (1 : Int32)), .val (.ref a_THROWN), .val (.int (0 : Int32)), .unset] [(.int (own_rel a_THROWN a_QUICK_RELOAD a_COMPLEX_RELOAD))])) st12 ?_
    rw [((by unfold own_rel; rw [if_neg (Ne.symm ne_a_QUICK_RELOAD_a_THROWN), if_neg (Ne.symm ne_a_COMPLEX_RELOAD_a_THROWN)]) : (own_rel a_THROWN a_QUICK_RELOAD a_COMPLEX_RELOAD) = (0 : Int32))]
    refine GoesW.step (B := T12.setTop (mkF m 57 #[.val (.int i0), .val (.int (1 : Int32)), .val (.ref a_THROWN), .val (.int (0 : Int32)), .val (.int (0 : Int32))] [])) (fun _ k => XS.istore X12.here hx rfl (hb hby at_55) rfl (l' := #[.val (.int i0), .val (.int (1 : Int32)), .val (.ref a_THROWN), .val (.int (0 : Int32)), .val (.int (0 : Int32))]) rfl k) ?_
    refine GoesW.step (B := T12.setTop (mkF m 59 #[.val (.int i0), .val (.int (1 : Int32)), .val (.ref a_THROWN), .val (.int (0 : Int32)), .val (.int (0 : Int32))] [(.int (0 : Int32))])) (fun _ k => XS.iload X12.here hx rfl (hb hby at_57) rfl k) ?_
    refine GoesW.step (B := T12.setTop (mkF m 60 #[.val (.int i0), .val (.int (1 : Int32)), .val (.ref a_THROWN), .val (.int (0 : Int32)), .val (.int (0 : Int32))] [(.int (0 : Int32)), (.int (0 : Int32))])) (fun _ k => XS.iloadN X12.here hx rfl (hb hby at_59) rfl k) ?_
    refine GoesW.step (B := T12.setTop (mkF m 63 #[.val (.int i0), .val (.int (1 : Int32)), .val (.ref a_THROWN), .val (.int (0 : Int32)), .val (.int (0 : Int32))] [])) (fun _ k => XS.icmpNo X12.here hx rfl (hb hby at_60) rfl (teq (by decide)).2 k) ?_
    refine GoesW.step (B := T12.setTop (mkF m 65 #[.val (.int i0), .val (.int (1 : Int32)), .val (.ref a_THROWN), .val (.int (0 : Int32)), .val (.int (0 : Int32))] [(.int (0 : Int32))])) (fun _ k => XS.iload X12.here hx rfl (hb hby at_63) rfl k) ?_
    obtain ⟨b14, T14, h14, k14, v14, c14, X14, e14, E14, hS14, hk14, hZ14, hown14, Ea14, Fc14, Fv14, Va14, la14, lb14, H14, I14, Sf14, st14⟩ := ldcCH X12 hx hZ hown (hw _ (List.mem_of_getElem? (i := 12) rfl)) (own_wS hw) eh12 hS0 (Nat.le_refl _) (own_EW hw) (List.mem_of_getElem? (i := 0) rfl) (CHr.refl hH0).1 (vs := [.int (110 : Int32), .int (111 : Int32), .int (116 : Int32), .int (32 : Int32), .int (108 : Int32), .int (111 : Int32), .int (97 : Int32), .int (100 : Int32), .int (101 : Int32), .int (100 : Int32)]) (z := (10 : Int32)) ⟨by decide, by decide⟩ (by decide) (by decide) (g := (mkF m 65 #[.val (.int i0), .val (.int (1 : Int32)), .val (.ref a_THROWN), .val (.int (0 : Int32)), .val (.int (0 : Int32))] [(.int (0 : Int32))])) rfl (hb hby at_65) (n := 40) (by decide) (by decide) (by decide) (by decide)
    have O_14 := O0.ext E14
    have CH14 := ((CHr.refl hH0).trans H14)
    refine GoesW.step (B := T14.setTop (mkF m 67 #[.val (.int i0), .val (.int (1 : Int32)), .val (.ref a_THROWN), .val (.int (0 : Int32)), .val (.int (0 : Int32))] [(.ref b14), (.int (0 : Int32))])) st14 ?_
    refine GoesW.step (B := T14.setTop (mkF m 68 #[.val (.int i0), .val (.int (1 : Int32)), .val (.ref a_THROWN), .val (.int (0 : Int32)), .val (.int (0 : Int32))] [(.ref a_THROWN), (.ref b14), (.int (0 : Int32))])) (fun _ k => XS.aloadN X14.here hx rfl (hb hby at_67) rfl rfl k) ?_
    have f16 := F_THROWN_spent.ext O_14.2
    have f17 := E_THROWN.ext O_14.2
    obtain ⟨cq15, kq15, qa15, qb15, qc15⟩ := isOf hZ14 e14 f17
    obtain ⟨_, _, ⟨T15, L15, k15, n15⟩, -, X15, ⟨Lc15, hQ15, l15, y15, z15⟩, st15⟩ := X14.virtualBack hx (y := (⟨"com/example/roundkeeper/roundkeeper/rulesets/sealedorders/Weapon$Loading", "spent", "()Ljava/lang/String;"⟩ : MethodName)) (z := (⟨"com/example/roundkeeper/roundkeeper/rulesets/sealedorders/Weapon$Loading", "spent", "()Ljava/lang/String;"⟩ : MethodName)) hown14 (mvT hZ14 (hw _ (List.mem_of_getElem? (i := 20) rfl))) (mvT hZ14 (hw _ (List.mem_of_getElem? (i := 21) rfl))) (notFace_of_selects (args := #[]) (mvT hZ14 (hw _ (List.mem_of_getElem? (i := 23) rfl)))) (mvT hZ14 (hw _ (List.mem_of_getElem? (i := 23) rfl))) (mvT hZ14 (hw _ (List.mem_of_getElem? (i := 22) rfl))) (by decide) (backOf (W := 2) (rmsR l Z a0 hw [] a_THROWN a_THROWN_spent h14 n0 O_14 f16) hZ14 (hw _ (List.mem_of_getElem? (i := 24) rfl)) (hw _ (List.mem_of_getElem? (i := 1) rfl)) (by decide) (by decide)) qa15 qc15 (g := (mkF m 68 #[.val (.int i0), .val (.int (1 : Int32)), .val (.ref a_THROWN), .val (.int (0 : Int32)), .val (.int (0 : Int32))] [(.ref a_THROWN), (.ref b14), (.int (0 : Int32))])) rfl (by rw [hml]; rfl) (Steps.refl _) (argsL := []) (rest := [(.ref b14), (.int (0 : Int32))]) (lenOf pd_2 rfl) rfl (by show 2 * 0 + _ ≤ _; exact Nat.le_of_eq rfl) (hb hby at_68) (fun _ _ => ⟨rfl, e14, (by decide : 2 + 0 ≤ _), (by decide : 44 + 0 ≤ _)⟩)
    dsimp only [Pt.U, Pt.locs, Pt.cells, Pt.slots] at X15 l15 y15 z15 st15 hQ15
    subst l15 y15 z15
    obtain ⟨rfl, Nq15, eh15⟩ := hQ15
    have N15 := Fr.app N12 Nq15
    refine GoesW.via (B := T15.setTop (mkF m 71 #[.val (.int i0), .val (.int (1 : Int32)), .val (.ref a_THROWN), .val (.int (0 : Int32)), .val (.int (0 : Int32))] [(.ref a_THROWN_spent), (.ref b14), (.int (0 : Int32))])) st15 ?_
    have f19 := S_COMPACT_STRINGS.ext O_14.2
    have f20 := E_THROWN_spent.ext O_14.2
    have f21 := F_THROWN_spent_coder.ext O_14.2
    have f22 := F_THROWN_spent_value.ext O_14.2
    have f23 := V_THROWN_spent_value.ext O_14.2
    obtain ⟨cq18, kq18, qa18, qb18, qc18⟩ := isOf hZ14 eh15 Ea14
    obtain ⟨_, _, ⟨T18, L18, k18, n18⟩, -, X18, ⟨Lc18, hQ18, l18, y18, z18⟩, st18⟩ := X15.virtualBack hx (y := (⟨"java/lang/String", "equals", "(Ljava/lang/Object;)Z"⟩ : MethodName)) (z := (⟨"java/lang/String", "equals", "(Ljava/lang/Object;)Z"⟩ : MethodName)) hown14 (mvT hZ14 (hw _ (List.mem_of_getElem? (i := 27) rfl))) (mvT hZ14 (hw _ (List.mem_of_getElem? (i := 28) rfl))) (notFace_of_selects (args := #[]) (mvT hZ14 (hw _ (List.mem_of_getElem? (i := 30) rfl)))) (mvT hZ14 (hw _ (List.mem_of_getElem? (i := 30) rfl))) (mvT hZ14 (hw _ (List.mem_of_getElem? (i := 29) rfl))) (by decide) (backOf (W := 1) (rmE2 l Z a0 hw [] b14 a_THROWN_spent v14 a_THROWN_spent_value c14 k_THROWN_spent_value cs h14 n0 O_14 f19 hcs f20 Fc14 Fv14 Va14 f21 f22 f23) hZ14 (hw _ (List.mem_of_getElem? (i := 31) rfl)) (hw _ (List.mem_of_getElem? (i := 13) rfl)) (by decide) (by decide)) qa18 qc18 (g := (mkF m 71 #[.val (.int i0), .val (.int (1 : Int32)), .val (.ref a_THROWN), .val (.int (0 : Int32)), .val (.int (0 : Int32))] [(.ref a_THROWN_spent), (.ref b14), (.int (0 : Int32))])) rfl (by rw [hml]; rfl) (Steps.refl _) (argsL := [(.ref a_THROWN_spent)]) (rest := [(.int (0 : Int32))]) (lenOf pd_3 rfl) rfl (by show 2 * 0 + _ ≤ _; exact Nat.le_of_eq rfl) (hb hby at_71) (fun _ _ => ⟨rfl, eh15, (by decide : 2 + 0 ≤ _), (by decide : 44 + 0 ≤ _)⟩)
    dsimp only [Pt.U, Pt.locs, Pt.cells, Pt.slots] at X18 l18 y18 z18 st18 hQ18
    subst l18 y18 z18
    obtain ⟨rfl, Nq18, eh18⟩ := hQ18
    have N18 := Fr.app N15 Nq18
    refine GoesW.via (B := T18.setTop (mkF m 74 #[.val (.int i0), .val (.int (1 : Int32)), .val (.ref a_THROWN), .val (.int (0 : Int32)), .val (.int (0 : Int32))] [(.int (0 : Int32)), (.int (0 : Int32))])) st18 ?_
    refine GoesW.step (B := T18.setTop (mkF m 77 #[.val (.int i0), .val (.int (1 : Int32)), .val (.ref a_THROWN), .val (.int (0 : Int32)), .val (.int (0 : Int32))] [])) (fun _ k => XS.icmpNo X18.here hx rfl (hb hby at_74) rfl (teq (by decide)).2 k) ?_
    refine GoesW.step (B := T18.setTop (mkF m 78 #[.val (.int i0), .val (.int (1 : Int32)), .val (.ref a_THROWN), .val (.int (0 : Int32)), .val (.int (0 : Int32))] [(.int (1 : Int32))])) (fun _ k => XS.iconst X18.here hx rfl (hb hby at_77) k) ?_
    refine GoesW.step (B := T18.setTop (mkF m 82 #[.val (.int i0), .val (.int (1 : Int32)), .val (.ref a_THROWN), .val (.int (0 : Int32)), .val (.int (0 : Int32))] [(.int (1 : Int32))])) (fun _ k => XS.goto X18.here hx rfl (pc0 := 78) (pc' := 82) rfl (hb hby at_78) (by decide) (by decide) k) ?_
    exact GoesW.retN X18 hS14 hk14 hx eh18 (t := .boolean) Bd.returns (by simp) hlk (hb hby at_82) (by decide) (by decide) (⟨rfl, N18⟩)
  · refine GoesW.step (B := s₁.setTop (mkF m 4 #[.val (.int i0), .val (.int (2 : Int32)), .unset, .unset, .unset] [])) (fun _ k => XS.istoreN X0.here hx rfl (hb hby at_3) rfl (l' := #[.val (.int i0), .val (.int (2 : Int32)), .unset, .unset, .unset]) rfl k) ?_
    refine GoesW.step (B := s₁.setTop (mkF m 5 #[.val (.int i0), .val (.int (2 : Int32)), .unset, .unset, .unset] [(.int (2 : Int32))])) (fun _ k => XS.iloadN X0.here hx rfl (hb hby at_4) rfl k) ?_
    refine GoesW.step (B := s₁.setTop (mkF m 17 #[.val (.int i0), .val (.int (2 : Int32)), .unset, .unset, .unset] [])) (fun _ k => XS.ifYes X0.here hx rfl (pc0 := 5) (pc' := 17) rfl (hb hby at_5) rfl ((if0 _ _).trans (feq (by decide)).2) (by decide) (by decide) k) ?_
    refine GoesW.step (B := s₁.setTop (mkF m 18 #[.val (.int i0), .val (.int (2 : Int32)), .unset, .unset, .unset] [(.int (2 : Int32))])) (fun _ k => XS.iloadN X0.here hx rfl (hb hby at_17) rfl k) ?_
    refine GoesW.step (B := s₁.setTop (mkF m 19 #[.val (.int i0), .val (.int (2 : Int32)), .unset, .unset, .unset] [(.int (1 : Int32)), (.int (2 : Int32))])) (fun _ k => XS.iconst X0.here hx rfl (hb hby at_18) k) ?_
    refine GoesW.step (B := s₁.setTop (mkF m 31 #[.val (.int i0), .val (.int (2 : Int32)), .unset, .unset, .unset] [])) (fun _ k => XS.icmpYes X0.here hx rfl (pc0 := 19) (pc' := 31) rfl (hb hby at_19) rfl (feq (by decide)).2 (by decide) (by decide) k) ?_
    refine GoesW.step (B := s₁.setTop (mkF m 32 #[.val (.int i0), .val (.int (2 : Int32)), .unset, .unset, .unset] [(.int (2 : Int32))])) (fun _ k => XS.iloadN X0.here hx rfl (hb hby at_31) rfl k) ?_
    refine GoesW.step (B := s₁.setTop (mkF m 33 #[.val (.int i0), .val (.int (2 : Int32)), .unset, .unset, .unset] [(.int (2 : Int32)), (.int (2 : Int32))])) (fun _ k => XS.iconst X0.here hx rfl (hb hby at_32) k) ?_
    refine GoesW.step (B := s₁.setTop (mkF m 36 #[.val (.int i0), .val (.int (2 : Int32)), .unset, .unset, .unset] [])) (fun _ k => XS.icmpNo X0.here hx rfl (hb hby at_33) rfl (teq (by decide)).2 k) ?_
    have f24 := S_QUICK_RELOAD.ext O0.2
    obtain ⟨T25, X25, e25, st25⟩ := getS2 X0 hx hZ hown (host := "") (Or.inl (hw _ (List.mem_of_getElem? (i := 42) rfl))) Via.refl e0 f24 (g := (mkF m 36 #[.val (.int i0), .val (.int (2 : Int32)), .unset, .unset, .unset] [])) rfl (hb hby at_36)
    refine GoesW.step (B := T25.setTop (mkF m 39 #[.val (.int i0), .val (.int (2 : Int32)), .unset, .unset, .unset] [(.ref a_QUICK_RELOAD)])) st25 ?_
    refine GoesW.step (B := T25.setTop (mkF m 40 #[.val (.int i0), .val (.int (2 : Int32)), .val (.ref a_QUICK_RELOAD), .unset, .unset] [])) (fun _ k => XS.astoreN X25.here hx rfl (hb hby at_39) rfl rfl (l' := #[.val (.int i0), .val (.int (2 : Int32)), .val (.ref a_QUICK_RELOAD), .unset, .unset]) rfl k) ?_
    refine GoesW.step (B := T25.setTop (mkF m 41 #[.val (.int i0), .val (.int (2 : Int32)), .val (.ref a_QUICK_RELOAD), .unset, .unset] [(.int (1 : Int32))])) (fun _ k => XS.iconst X25.here hx rfl (hb hby at_40) k) ?_
    refine GoesW.step (B := T25.setTop (mkF m 42 #[.val (.int i0), .val (.int (2 : Int32)), .val (.ref a_QUICK_RELOAD), .val (.int (1 : Int32)), .unset] [])) (fun _ k => XS.istoreN X25.here hx rfl (hb hby at_41) rfl (l' := #[.val (.int i0), .val (.int (2 : Int32)), .val (.ref a_QUICK_RELOAD), .val (.int (1 : Int32)), .unset]) rfl k) ?_
    refine GoesW.step (B := T25.setTop (mkF m 51 #[.val (.int i0), .val (.int (2 : Int32)), .val (.ref a_QUICK_RELOAD), .val (.int (1 : Int32)), .unset] [])) (fun _ k => XS.goto X25.here hx rfl (pc0 := 42) (pc' := 51) rfl (hb hby at_42) (by decide) (by decide) k) ?_
    refine GoesW.step (B := T25.setTop (mkF m 52 #[.val (.int i0), .val (.int (2 : Int32)), .val (.ref a_QUICK_RELOAD), .val (.int (1 : Int32)), .unset] [(.ref a_QUICK_RELOAD)])) (fun _ k => XS.aloadN X25.here hx rfl (hb hby at_51) rfl rfl k) ?_
    have f27 := E_QUICK_RELOAD.ext O0.2
    obtain ⟨cq26, kq26, qa26, qb26, qc26⟩ := isOf hZ e25 f27
    obtain ⟨_, _, ⟨T26, L26, k26, n26⟩, -, X26, ⟨Lc26, hQ26, l26, y26, z26⟩, st26⟩ := X25.virtualBack hx (y := (⟨"com/example/roundkeeper/roundkeeper/rulesets/sealedorders/Weapon$Loading", "reloads", "()Z"⟩ : MethodName)) (z := (⟨"com/example/roundkeeper/roundkeeper/rulesets/sealedorders/Weapon$Loading", "reloads", "()Z"⟩ : MethodName)) hown (mvT hZ (hw _ (List.mem_of_getElem? (i := 3) rfl))) (mvT hZ (hw _ (List.mem_of_getElem? (i := 4) rfl))) (notFace_of_selects (args := #[]) (mvT hZ (hw _ (List.mem_of_getElem? (i := 6) rfl)))) (mvT hZ (hw _ (List.mem_of_getElem? (i := 6) rfl))) (mvT hZ (hw _ (List.mem_of_getElem? (i := 5) rfl))) (by decide) (backOf (W := 0) (rm1 l Z a0 hw [] a_QUICK_RELOAD a_NONE a_QUICK_RELOAD a_COMPLEX_RELOAD a_COMPLEX_RELOAD_spent a_COMPLEX_RELOAD_spent_value a_THROWN a_THROWN_spent a_THROWN_spent_value k_COMPLEX_RELOAD_spent_value k_THROWN_spent_value cs h0 n0 O0 FS) hZ (hw _ (List.mem_of_getElem? (i := 7) rfl)) (hw _ (List.mem_of_getElem? (i := 1) rfl)) (by decide) (by decide)) qa26 qc26 (g := (mkF m 52 #[.val (.int i0), .val (.int (2 : Int32)), .val (.ref a_QUICK_RELOAD), .val (.int (1 : Int32)), .unset] [(.ref a_QUICK_RELOAD)])) rfl (by rw [hml]; rfl) (Steps.refl _) (argsL := []) (rest := []) (lenOf pd_1 rfl) rfl (by show 2 * 0 + _ ≤ _; exact Nat.le_of_eq rfl) (hb hby at_52) (fun _ _ => ⟨rfl, e25, (by decide : 0 + 0 ≤ _), (by decide : 0 + 0 ≤ _)⟩)
    dsimp only [Pt.U, Pt.locs, Pt.cells, Pt.slots] at X26 l26 y26 z26 st26 hQ26
    subst l26 y26 z26
    obtain ⟨rfl, Nq26, eh26⟩ := hQ26
    have N26 := Fr.app N0 Nq26
    refine GoesW.via (B := T26.setTop (mkF m 55 #[.val (.int i0), .val (.int (2 : Int32)), .val (.ref a_QUICK_RELOAD), .val (.int (1 : Int32)), .unset] [(.int (own_rel a_QUICK_RELOAD a_QUICK_RELOAD a_COMPLEX_RELOAD))])) st26 ?_
    rw [((by unfold own_rel; rw [if_pos rfl]) : (own_rel a_QUICK_RELOAD a_QUICK_RELOAD a_COMPLEX_RELOAD) = (1 : Int32))]
    refine GoesW.step (B := T26.setTop (mkF m 57 #[.val (.int i0), .val (.int (2 : Int32)), .val (.ref a_QUICK_RELOAD), .val (.int (1 : Int32)), .val (.int (1 : Int32))] [])) (fun _ k => XS.istore X26.here hx rfl (hb hby at_55) rfl (l' := #[.val (.int i0), .val (.int (2 : Int32)), .val (.ref a_QUICK_RELOAD), .val (.int (1 : Int32)), .val (.int (1 : Int32))]) rfl k) ?_
    refine GoesW.step (B := T26.setTop (mkF m 59 #[.val (.int i0), .val (.int (2 : Int32)), .val (.ref a_QUICK_RELOAD), .val (.int (1 : Int32)), .val (.int (1 : Int32))] [(.int (1 : Int32))])) (fun _ k => XS.iload X26.here hx rfl (hb hby at_57) rfl k) ?_
    refine GoesW.step (B := T26.setTop (mkF m 60 #[.val (.int i0), .val (.int (2 : Int32)), .val (.ref a_QUICK_RELOAD), .val (.int (1 : Int32)), .val (.int (1 : Int32))] [(.int (1 : Int32)), (.int (1 : Int32))])) (fun _ k => XS.iloadN X26.here hx rfl (hb hby at_59) rfl k) ?_
    refine GoesW.step (B := T26.setTop (mkF m 63 #[.val (.int i0), .val (.int (2 : Int32)), .val (.ref a_QUICK_RELOAD), .val (.int (1 : Int32)), .val (.int (1 : Int32))] [])) (fun _ k => XS.icmpNo X26.here hx rfl (hb hby at_60) rfl (teq (by decide)).2 k) ?_
    refine GoesW.step (B := T26.setTop (mkF m 65 #[.val (.int i0), .val (.int (2 : Int32)), .val (.ref a_QUICK_RELOAD), .val (.int (1 : Int32)), .val (.int (1 : Int32))] [(.int (1 : Int32))])) (fun _ k => XS.iload X26.here hx rfl (hb hby at_63) rfl k) ?_
    obtain ⟨b28, T28, h28, k28, v28, c28, X28, e28, E28, hS28, hk28, hZ28, hown28, Ea28, Fc28, Fv28, Va28, la28, lb28, H28, I28, Sf28, st28⟩ := ldcCH X26 hx hZ hown (hw _ (List.mem_of_getElem? (i := 12) rfl)) (own_wS hw) eh26 hS0 (Nat.le_refl _) (own_EW hw) (List.mem_of_getElem? (i := 0) rfl) (CHr.refl hH0).1 (vs := [.int (110 : Int32), .int (111 : Int32), .int (116 : Int32), .int (32 : Int32), .int (108 : Int32), .int (111 : Int32), .int (97 : Int32), .int (100 : Int32), .int (101 : Int32), .int (100 : Int32)]) (z := (10 : Int32)) ⟨by decide, by decide⟩ (by decide) (by decide) (g := (mkF m 65 #[.val (.int i0), .val (.int (2 : Int32)), .val (.ref a_QUICK_RELOAD), .val (.int (1 : Int32)), .val (.int (1 : Int32))] [(.int (1 : Int32))])) rfl (hb hby at_65) (n := 40) (by decide) (by decide) (by decide) (by decide)
    have O_28 := O0.ext E28
    have CH28 := ((CHr.refl hH0).trans H28)
    refine GoesW.step (B := T28.setTop (mkF m 67 #[.val (.int i0), .val (.int (2 : Int32)), .val (.ref a_QUICK_RELOAD), .val (.int (1 : Int32)), .val (.int (1 : Int32))] [(.ref b28), (.int (1 : Int32))])) st28 ?_
    refine GoesW.step (B := T28.setTop (mkF m 68 #[.val (.int i0), .val (.int (2 : Int32)), .val (.ref a_QUICK_RELOAD), .val (.int (1 : Int32)), .val (.int (1 : Int32))] [(.ref a_QUICK_RELOAD), (.ref b28), (.int (1 : Int32))])) (fun _ k => XS.aloadN X28.here hx rfl (hb hby at_67) rfl rfl k) ?_
    have f30 := F_QUICK_RELOAD_spent.ext O_28.2
    have f31 := E_QUICK_RELOAD.ext O_28.2
    obtain ⟨cq29, kq29, qa29, qb29, qc29⟩ := isOf hZ28 e28 f31
    obtain ⟨_, _, ⟨T29, L29, k29, n29⟩, -, X29, ⟨Lc29, hQ29, l29, y29, z29⟩, st29⟩ := X28.virtualBack hx (y := (⟨"com/example/roundkeeper/roundkeeper/rulesets/sealedorders/Weapon$Loading", "spent", "()Ljava/lang/String;"⟩ : MethodName)) (z := (⟨"com/example/roundkeeper/roundkeeper/rulesets/sealedorders/Weapon$Loading", "spent", "()Ljava/lang/String;"⟩ : MethodName)) hown28 (mvT hZ28 (hw _ (List.mem_of_getElem? (i := 20) rfl))) (mvT hZ28 (hw _ (List.mem_of_getElem? (i := 21) rfl))) (notFace_of_selects (args := #[]) (mvT hZ28 (hw _ (List.mem_of_getElem? (i := 23) rfl)))) (mvT hZ28 (hw _ (List.mem_of_getElem? (i := 23) rfl))) (mvT hZ28 (hw _ (List.mem_of_getElem? (i := 22) rfl))) (by decide) (backOf (W := 2) (rmsR l Z a0 hw [] a_QUICK_RELOAD a_COMPLEX_RELOAD_spent h28 n0 O_28 f30) hZ28 (hw _ (List.mem_of_getElem? (i := 24) rfl)) (hw _ (List.mem_of_getElem? (i := 1) rfl)) (by decide) (by decide)) qa29 qc29 (g := (mkF m 68 #[.val (.int i0), .val (.int (2 : Int32)), .val (.ref a_QUICK_RELOAD), .val (.int (1 : Int32)), .val (.int (1 : Int32))] [(.ref a_QUICK_RELOAD), (.ref b28), (.int (1 : Int32))])) rfl (by rw [hml]; rfl) (Steps.refl _) (argsL := []) (rest := [(.ref b28), (.int (1 : Int32))]) (lenOf pd_2 rfl) rfl (by show 2 * 0 + _ ≤ _; exact Nat.le_of_eq rfl) (hb hby at_68) (fun _ _ => ⟨rfl, e28, (by decide : 2 + 0 ≤ _), (by decide : 44 + 0 ≤ _)⟩)
    dsimp only [Pt.U, Pt.locs, Pt.cells, Pt.slots] at X29 l29 y29 z29 st29 hQ29
    subst l29 y29 z29
    obtain ⟨rfl, Nq29, eh29⟩ := hQ29
    have N29 := Fr.app N26 Nq29
    refine GoesW.via (B := T29.setTop (mkF m 71 #[.val (.int i0), .val (.int (2 : Int32)), .val (.ref a_QUICK_RELOAD), .val (.int (1 : Int32)), .val (.int (1 : Int32))] [(.ref a_COMPLEX_RELOAD_spent), (.ref b28), (.int (1 : Int32))])) st29 ?_
    have f33 := S_COMPACT_STRINGS.ext O_28.2
    have f34 := E_COMPLEX_RELOAD_spent.ext O_28.2
    have f35 := F_COMPLEX_RELOAD_spent_coder.ext O_28.2
    have f36 := F_COMPLEX_RELOAD_spent_value.ext O_28.2
    have f37 := V_COMPLEX_RELOAD_spent_value.ext O_28.2
    obtain ⟨cq32, kq32, qa32, qb32, qc32⟩ := isOf hZ28 eh29 Ea28
    obtain ⟨_, _, ⟨T32, L32, k32, n32⟩, -, X32, ⟨Lc32, hQ32, l32, y32, z32⟩, st32⟩ := X29.virtualBack hx (y := (⟨"java/lang/String", "equals", "(Ljava/lang/Object;)Z"⟩ : MethodName)) (z := (⟨"java/lang/String", "equals", "(Ljava/lang/Object;)Z"⟩ : MethodName)) hown28 (mvT hZ28 (hw _ (List.mem_of_getElem? (i := 27) rfl))) (mvT hZ28 (hw _ (List.mem_of_getElem? (i := 28) rfl))) (notFace_of_selects (args := #[]) (mvT hZ28 (hw _ (List.mem_of_getElem? (i := 30) rfl)))) (mvT hZ28 (hw _ (List.mem_of_getElem? (i := 30) rfl))) (mvT hZ28 (hw _ (List.mem_of_getElem? (i := 29) rfl))) (by decide) (backOf (W := 1) (rmE1 l Z a0 hw [] b28 a_COMPLEX_RELOAD_spent v28 a_COMPLEX_RELOAD_spent_value c28 k_COMPLEX_RELOAD_spent_value cs h28 n0 O_28 f33 hcs f34 Fc28 Fv28 Va28 f35 f36 f37) hZ28 (hw _ (List.mem_of_getElem? (i := 31) rfl)) (hw _ (List.mem_of_getElem? (i := 13) rfl)) (by decide) (by decide)) qa32 qc32 (g := (mkF m 71 #[.val (.int i0), .val (.int (2 : Int32)), .val (.ref a_QUICK_RELOAD), .val (.int (1 : Int32)), .val (.int (1 : Int32))] [(.ref a_COMPLEX_RELOAD_spent), (.ref b28), (.int (1 : Int32))])) rfl (by rw [hml]; rfl) (Steps.refl _) (argsL := [(.ref a_COMPLEX_RELOAD_spent)]) (rest := [(.int (1 : Int32))]) (lenOf pd_3 rfl) rfl (by show 2 * 0 + _ ≤ _; exact Nat.le_of_eq rfl) (hb hby at_71) (fun _ _ => ⟨rfl, eh29, (by decide : 2 + 0 ≤ _), (by decide : 44 + 0 ≤ _)⟩)
    dsimp only [Pt.U, Pt.locs, Pt.cells, Pt.slots] at X32 l32 y32 z32 st32 hQ32
    subst l32 y32 z32
    obtain ⟨rfl, Nq32, eh32⟩ := hQ32
    have N32 := Fr.app N29 Nq32
    refine GoesW.via (B := T32.setTop (mkF m 74 #[.val (.int i0), .val (.int (2 : Int32)), .val (.ref a_QUICK_RELOAD), .val (.int (1 : Int32)), .val (.int (1 : Int32))] [(.int (1 : Int32)), (.int (1 : Int32))])) st32 ?_
    refine GoesW.step (B := T32.setTop (mkF m 77 #[.val (.int i0), .val (.int (2 : Int32)), .val (.ref a_QUICK_RELOAD), .val (.int (1 : Int32)), .val (.int (1 : Int32))] [])) (fun _ k => XS.icmpNo X32.here hx rfl (hb hby at_74) rfl (teq (by decide)).2 k) ?_
    refine GoesW.step (B := T32.setTop (mkF m 78 #[.val (.int i0), .val (.int (2 : Int32)), .val (.ref a_QUICK_RELOAD), .val (.int (1 : Int32)), .val (.int (1 : Int32))] [(.int (1 : Int32))])) (fun _ k => XS.iconst X32.here hx rfl (hb hby at_77) k) ?_
    refine GoesW.step (B := T32.setTop (mkF m 82 #[.val (.int i0), .val (.int (2 : Int32)), .val (.ref a_QUICK_RELOAD), .val (.int (1 : Int32)), .val (.int (1 : Int32))] [(.int (1 : Int32))])) (fun _ k => XS.goto X32.here hx rfl (pc0 := 78) (pc' := 82) rfl (hb hby at_78) (by decide) (by decide) k) ?_
    exact GoesW.retN X32 hS28 hk28 hx eh32 (t := .boolean) Bd.returns (by simp) hlk (hb hby at_82) (by decide) (by decide) (⟨rfl, N32⟩)
  · refine GoesW.step (B := s₁.setTop (mkF m 4 #[.val (.int i0), .val (.int (3 : Int32)), .unset, .unset, .unset] [])) (fun _ k => XS.istoreN X0.here hx rfl (hb hby at_3) rfl (l' := #[.val (.int i0), .val (.int (3 : Int32)), .unset, .unset, .unset]) rfl k) ?_
    refine GoesW.step (B := s₁.setTop (mkF m 5 #[.val (.int i0), .val (.int (3 : Int32)), .unset, .unset, .unset] [(.int (3 : Int32))])) (fun _ k => XS.iloadN X0.here hx rfl (hb hby at_4) rfl k) ?_
    refine GoesW.step (B := s₁.setTop (mkF m 17 #[.val (.int i0), .val (.int (3 : Int32)), .unset, .unset, .unset] [])) (fun _ k => XS.ifYes X0.here hx rfl (pc0 := 5) (pc' := 17) rfl (hb hby at_5) rfl ((if0 _ _).trans (feq (by decide)).2) (by decide) (by decide) k) ?_
    refine GoesW.step (B := s₁.setTop (mkF m 18 #[.val (.int i0), .val (.int (3 : Int32)), .unset, .unset, .unset] [(.int (3 : Int32))])) (fun _ k => XS.iloadN X0.here hx rfl (hb hby at_17) rfl k) ?_
    refine GoesW.step (B := s₁.setTop (mkF m 19 #[.val (.int i0), .val (.int (3 : Int32)), .unset, .unset, .unset] [(.int (1 : Int32)), (.int (3 : Int32))])) (fun _ k => XS.iconst X0.here hx rfl (hb hby at_18) k) ?_
    refine GoesW.step (B := s₁.setTop (mkF m 31 #[.val (.int i0), .val (.int (3 : Int32)), .unset, .unset, .unset] [])) (fun _ k => XS.icmpYes X0.here hx rfl (pc0 := 19) (pc' := 31) rfl (hb hby at_19) rfl (feq (by decide)).2 (by decide) (by decide) k) ?_
    refine GoesW.step (B := s₁.setTop (mkF m 32 #[.val (.int i0), .val (.int (3 : Int32)), .unset, .unset, .unset] [(.int (3 : Int32))])) (fun _ k => XS.iloadN X0.here hx rfl (hb hby at_31) rfl k) ?_
    refine GoesW.step (B := s₁.setTop (mkF m 33 #[.val (.int i0), .val (.int (3 : Int32)), .unset, .unset, .unset] [(.int (2 : Int32)), (.int (3 : Int32))])) (fun _ k => XS.iconst X0.here hx rfl (hb hby at_32) k) ?_
    refine GoesW.step (B := s₁.setTop (mkF m 45 #[.val (.int i0), .val (.int (3 : Int32)), .unset, .unset, .unset] [])) (fun _ k => XS.icmpYes X0.here hx rfl (pc0 := 33) (pc' := 45) rfl (hb hby at_33) rfl (feq (by decide)).2 (by decide) (by decide) k) ?_
    have f38 := S_COMPLEX_RELOAD.ext O0.2
    obtain ⟨T39, X39, e39, st39⟩ := getS2 X0 hx hZ hown (host := "") (Or.inl (hw _ (List.mem_of_getElem? (i := 32) rfl))) Via.refl e0 f38 (g := (mkF m 45 #[.val (.int i0), .val (.int (3 : Int32)), .unset, .unset, .unset] [])) rfl (hb hby at_45)
    refine GoesW.step (B := T39.setTop (mkF m 48 #[.val (.int i0), .val (.int (3 : Int32)), .unset, .unset, .unset] [(.ref a_COMPLEX_RELOAD)])) st39 ?_
    refine GoesW.step (B := T39.setTop (mkF m 49 #[.val (.int i0), .val (.int (3 : Int32)), .val (.ref a_COMPLEX_RELOAD), .unset, .unset] [])) (fun _ k => XS.astoreN X39.here hx rfl (hb hby at_48) rfl rfl (l' := #[.val (.int i0), .val (.int (3 : Int32)), .val (.ref a_COMPLEX_RELOAD), .unset, .unset]) rfl k) ?_
    refine GoesW.step (B := T39.setTop (mkF m 50 #[.val (.int i0), .val (.int (3 : Int32)), .val (.ref a_COMPLEX_RELOAD), .unset, .unset] [(.int (1 : Int32))])) (fun _ k => XS.iconst X39.here hx rfl (hb hby at_49) k) ?_
    refine GoesW.step (B := T39.setTop (mkF m 51 #[.val (.int i0), .val (.int (3 : Int32)), .val (.ref a_COMPLEX_RELOAD), .val (.int (1 : Int32)), .unset] [])) (fun _ k => XS.istoreN X39.here hx rfl (hb hby at_50) rfl (l' := #[.val (.int i0), .val (.int (3 : Int32)), .val (.ref a_COMPLEX_RELOAD), .val (.int (1 : Int32)), .unset]) rfl k) ?_
    refine GoesW.step (B := T39.setTop (mkF m 52 #[.val (.int i0), .val (.int (3 : Int32)), .val (.ref a_COMPLEX_RELOAD), .val (.int (1 : Int32)), .unset] [(.ref a_COMPLEX_RELOAD)])) (fun _ k => XS.aloadN X39.here hx rfl (hb hby at_51) rfl rfl k) ?_
    have f41 := E_COMPLEX_RELOAD.ext O0.2
    obtain ⟨cq40, kq40, qa40, qb40, qc40⟩ := isOf hZ e39 f41
    obtain ⟨_, _, ⟨T40, L40, k40, n40⟩, -, X40, ⟨Lc40, hQ40, l40, y40, z40⟩, st40⟩ := X39.virtualBack hx (y := (⟨"com/example/roundkeeper/roundkeeper/rulesets/sealedorders/Weapon$Loading", "reloads", "()Z"⟩ : MethodName)) (z := (⟨"com/example/roundkeeper/roundkeeper/rulesets/sealedorders/Weapon$Loading", "reloads", "()Z"⟩ : MethodName)) hown (mvT hZ (hw _ (List.mem_of_getElem? (i := 3) rfl))) (mvT hZ (hw _ (List.mem_of_getElem? (i := 4) rfl))) (notFace_of_selects (args := #[]) (mvT hZ (hw _ (List.mem_of_getElem? (i := 6) rfl)))) (mvT hZ (hw _ (List.mem_of_getElem? (i := 6) rfl))) (mvT hZ (hw _ (List.mem_of_getElem? (i := 5) rfl))) (by decide) (backOf (W := 0) (rm1 l Z a0 hw [] a_COMPLEX_RELOAD a_NONE a_QUICK_RELOAD a_COMPLEX_RELOAD a_COMPLEX_RELOAD_spent a_COMPLEX_RELOAD_spent_value a_THROWN a_THROWN_spent a_THROWN_spent_value k_COMPLEX_RELOAD_spent_value k_THROWN_spent_value cs h0 n0 O0 FS) hZ (hw _ (List.mem_of_getElem? (i := 7) rfl)) (hw _ (List.mem_of_getElem? (i := 1) rfl)) (by decide) (by decide)) qa40 qc40 (g := (mkF m 52 #[.val (.int i0), .val (.int (3 : Int32)), .val (.ref a_COMPLEX_RELOAD), .val (.int (1 : Int32)), .unset] [(.ref a_COMPLEX_RELOAD)])) rfl (by rw [hml]; rfl) (Steps.refl _) (argsL := []) (rest := []) (lenOf pd_1 rfl) rfl (by show 2 * 0 + _ ≤ _; exact Nat.le_of_eq rfl) (hb hby at_52) (fun _ _ => ⟨rfl, e39, (by decide : 0 + 0 ≤ _), (by decide : 0 + 0 ≤ _)⟩)
    dsimp only [Pt.U, Pt.locs, Pt.cells, Pt.slots] at X40 l40 y40 z40 st40 hQ40
    subst l40 y40 z40
    obtain ⟨rfl, Nq40, eh40⟩ := hQ40
    have N40 := Fr.app N0 Nq40
    refine GoesW.via (B := T40.setTop (mkF m 55 #[.val (.int i0), .val (.int (3 : Int32)), .val (.ref a_COMPLEX_RELOAD), .val (.int (1 : Int32)), .unset] [(.int (own_rel a_COMPLEX_RELOAD a_QUICK_RELOAD a_COMPLEX_RELOAD))])) st40 ?_
    rw [((by unfold own_rel; rw [if_neg (Ne.symm ne_a_QUICK_RELOAD_a_COMPLEX_RELOAD), if_pos rfl]) : (own_rel a_COMPLEX_RELOAD a_QUICK_RELOAD a_COMPLEX_RELOAD) = (1 : Int32))]
    refine GoesW.step (B := T40.setTop (mkF m 57 #[.val (.int i0), .val (.int (3 : Int32)), .val (.ref a_COMPLEX_RELOAD), .val (.int (1 : Int32)), .val (.int (1 : Int32))] [])) (fun _ k => XS.istore X40.here hx rfl (hb hby at_55) rfl (l' := #[.val (.int i0), .val (.int (3 : Int32)), .val (.ref a_COMPLEX_RELOAD), .val (.int (1 : Int32)), .val (.int (1 : Int32))]) rfl k) ?_
    refine GoesW.step (B := T40.setTop (mkF m 59 #[.val (.int i0), .val (.int (3 : Int32)), .val (.ref a_COMPLEX_RELOAD), .val (.int (1 : Int32)), .val (.int (1 : Int32))] [(.int (1 : Int32))])) (fun _ k => XS.iload X40.here hx rfl (hb hby at_57) rfl k) ?_
    refine GoesW.step (B := T40.setTop (mkF m 60 #[.val (.int i0), .val (.int (3 : Int32)), .val (.ref a_COMPLEX_RELOAD), .val (.int (1 : Int32)), .val (.int (1 : Int32))] [(.int (1 : Int32)), (.int (1 : Int32))])) (fun _ k => XS.iloadN X40.here hx rfl (hb hby at_59) rfl k) ?_
    refine GoesW.step (B := T40.setTop (mkF m 63 #[.val (.int i0), .val (.int (3 : Int32)), .val (.ref a_COMPLEX_RELOAD), .val (.int (1 : Int32)), .val (.int (1 : Int32))] [])) (fun _ k => XS.icmpNo X40.here hx rfl (hb hby at_60) rfl (teq (by decide)).2 k) ?_
    refine GoesW.step (B := T40.setTop (mkF m 65 #[.val (.int i0), .val (.int (3 : Int32)), .val (.ref a_COMPLEX_RELOAD), .val (.int (1 : Int32)), .val (.int (1 : Int32))] [(.int (1 : Int32))])) (fun _ k => XS.iload X40.here hx rfl (hb hby at_63) rfl k) ?_
    obtain ⟨b42, T42, h42, k42, v42, c42, X42, e42, E42, hS42, hk42, hZ42, hown42, Ea42, Fc42, Fv42, Va42, la42, lb42, H42, I42, Sf42, st42⟩ := ldcCH X40 hx hZ hown (hw _ (List.mem_of_getElem? (i := 12) rfl)) (own_wS hw) eh40 hS0 (Nat.le_refl _) (own_EW hw) (List.mem_of_getElem? (i := 0) rfl) (CHr.refl hH0).1 (vs := [.int (110 : Int32), .int (111 : Int32), .int (116 : Int32), .int (32 : Int32), .int (108 : Int32), .int (111 : Int32), .int (97 : Int32), .int (100 : Int32), .int (101 : Int32), .int (100 : Int32)]) (z := (10 : Int32)) ⟨by decide, by decide⟩ (by decide) (by decide) (g := (mkF m 65 #[.val (.int i0), .val (.int (3 : Int32)), .val (.ref a_COMPLEX_RELOAD), .val (.int (1 : Int32)), .val (.int (1 : Int32))] [(.int (1 : Int32))])) rfl (hb hby at_65) (n := 40) (by decide) (by decide) (by decide) (by decide)
    have O_42 := O0.ext E42
    have CH42 := ((CHr.refl hH0).trans H42)
    refine GoesW.step (B := T42.setTop (mkF m 67 #[.val (.int i0), .val (.int (3 : Int32)), .val (.ref a_COMPLEX_RELOAD), .val (.int (1 : Int32)), .val (.int (1 : Int32))] [(.ref b42), (.int (1 : Int32))])) st42 ?_
    refine GoesW.step (B := T42.setTop (mkF m 68 #[.val (.int i0), .val (.int (3 : Int32)), .val (.ref a_COMPLEX_RELOAD), .val (.int (1 : Int32)), .val (.int (1 : Int32))] [(.ref a_COMPLEX_RELOAD), (.ref b42), (.int (1 : Int32))])) (fun _ k => XS.aloadN X42.here hx rfl (hb hby at_67) rfl rfl k) ?_
    have f44 := F_COMPLEX_RELOAD_spent.ext O_42.2
    have f45 := E_COMPLEX_RELOAD.ext O_42.2
    obtain ⟨cq43, kq43, qa43, qb43, qc43⟩ := isOf hZ42 e42 f45
    obtain ⟨_, _, ⟨T43, L43, k43, n43⟩, -, X43, ⟨Lc43, hQ43, l43, y43, z43⟩, st43⟩ := X42.virtualBack hx (y := (⟨"com/example/roundkeeper/roundkeeper/rulesets/sealedorders/Weapon$Loading", "spent", "()Ljava/lang/String;"⟩ : MethodName)) (z := (⟨"com/example/roundkeeper/roundkeeper/rulesets/sealedorders/Weapon$Loading", "spent", "()Ljava/lang/String;"⟩ : MethodName)) hown42 (mvT hZ42 (hw _ (List.mem_of_getElem? (i := 20) rfl))) (mvT hZ42 (hw _ (List.mem_of_getElem? (i := 21) rfl))) (notFace_of_selects (args := #[]) (mvT hZ42 (hw _ (List.mem_of_getElem? (i := 23) rfl)))) (mvT hZ42 (hw _ (List.mem_of_getElem? (i := 23) rfl))) (mvT hZ42 (hw _ (List.mem_of_getElem? (i := 22) rfl))) (by decide) (backOf (W := 2) (rmsR l Z a0 hw [] a_COMPLEX_RELOAD a_COMPLEX_RELOAD_spent h42 n0 O_42 f44) hZ42 (hw _ (List.mem_of_getElem? (i := 24) rfl)) (hw _ (List.mem_of_getElem? (i := 1) rfl)) (by decide) (by decide)) qa43 qc43 (g := (mkF m 68 #[.val (.int i0), .val (.int (3 : Int32)), .val (.ref a_COMPLEX_RELOAD), .val (.int (1 : Int32)), .val (.int (1 : Int32))] [(.ref a_COMPLEX_RELOAD), (.ref b42), (.int (1 : Int32))])) rfl (by rw [hml]; rfl) (Steps.refl _) (argsL := []) (rest := [(.ref b42), (.int (1 : Int32))]) (lenOf pd_2 rfl) rfl (by show 2 * 0 + _ ≤ _; exact Nat.le_of_eq rfl) (hb hby at_68) (fun _ _ => ⟨rfl, e42, (by decide : 2 + 0 ≤ _), (by decide : 44 + 0 ≤ _)⟩)
    dsimp only [Pt.U, Pt.locs, Pt.cells, Pt.slots] at X43 l43 y43 z43 st43 hQ43
    subst l43 y43 z43
    obtain ⟨rfl, Nq43, eh43⟩ := hQ43
    have N43 := Fr.app N40 Nq43
    refine GoesW.via (B := T43.setTop (mkF m 71 #[.val (.int i0), .val (.int (3 : Int32)), .val (.ref a_COMPLEX_RELOAD), .val (.int (1 : Int32)), .val (.int (1 : Int32))] [(.ref a_COMPLEX_RELOAD_spent), (.ref b42), (.int (1 : Int32))])) st43 ?_
    have f47 := S_COMPACT_STRINGS.ext O_42.2
    have f48 := E_COMPLEX_RELOAD_spent.ext O_42.2
    have f49 := F_COMPLEX_RELOAD_spent_coder.ext O_42.2
    have f50 := F_COMPLEX_RELOAD_spent_value.ext O_42.2
    have f51 := V_COMPLEX_RELOAD_spent_value.ext O_42.2
    obtain ⟨cq46, kq46, qa46, qb46, qc46⟩ := isOf hZ42 eh43 Ea42
    obtain ⟨_, _, ⟨T46, L46, k46, n46⟩, -, X46, ⟨Lc46, hQ46, l46, y46, z46⟩, st46⟩ := X43.virtualBack hx (y := (⟨"java/lang/String", "equals", "(Ljava/lang/Object;)Z"⟩ : MethodName)) (z := (⟨"java/lang/String", "equals", "(Ljava/lang/Object;)Z"⟩ : MethodName)) hown42 (mvT hZ42 (hw _ (List.mem_of_getElem? (i := 27) rfl))) (mvT hZ42 (hw _ (List.mem_of_getElem? (i := 28) rfl))) (notFace_of_selects (args := #[]) (mvT hZ42 (hw _ (List.mem_of_getElem? (i := 30) rfl)))) (mvT hZ42 (hw _ (List.mem_of_getElem? (i := 30) rfl))) (mvT hZ42 (hw _ (List.mem_of_getElem? (i := 29) rfl))) (by decide) (backOf (W := 1) (rmE1 l Z a0 hw [] b42 a_COMPLEX_RELOAD_spent v42 a_COMPLEX_RELOAD_spent_value c42 k_COMPLEX_RELOAD_spent_value cs h42 n0 O_42 f47 hcs f48 Fc42 Fv42 Va42 f49 f50 f51) hZ42 (hw _ (List.mem_of_getElem? (i := 31) rfl)) (hw _ (List.mem_of_getElem? (i := 13) rfl)) (by decide) (by decide)) qa46 qc46 (g := (mkF m 71 #[.val (.int i0), .val (.int (3 : Int32)), .val (.ref a_COMPLEX_RELOAD), .val (.int (1 : Int32)), .val (.int (1 : Int32))] [(.ref a_COMPLEX_RELOAD_spent), (.ref b42), (.int (1 : Int32))])) rfl (by rw [hml]; rfl) (Steps.refl _) (argsL := [(.ref a_COMPLEX_RELOAD_spent)]) (rest := [(.int (1 : Int32))]) (lenOf pd_3 rfl) rfl (by show 2 * 0 + _ ≤ _; exact Nat.le_of_eq rfl) (hb hby at_71) (fun _ _ => ⟨rfl, eh43, (by decide : 2 + 0 ≤ _), (by decide : 44 + 0 ≤ _)⟩)
    dsimp only [Pt.U, Pt.locs, Pt.cells, Pt.slots] at X46 l46 y46 z46 st46 hQ46
    subst l46 y46 z46
    obtain ⟨rfl, Nq46, eh46⟩ := hQ46
    have N46 := Fr.app N43 Nq46
    refine GoesW.via (B := T46.setTop (mkF m 74 #[.val (.int i0), .val (.int (3 : Int32)), .val (.ref a_COMPLEX_RELOAD), .val (.int (1 : Int32)), .val (.int (1 : Int32))] [(.int (1 : Int32)), (.int (1 : Int32))])) st46 ?_
    refine GoesW.step (B := T46.setTop (mkF m 77 #[.val (.int i0), .val (.int (3 : Int32)), .val (.ref a_COMPLEX_RELOAD), .val (.int (1 : Int32)), .val (.int (1 : Int32))] [])) (fun _ k => XS.icmpNo X46.here hx rfl (hb hby at_74) rfl (teq (by decide)).2 k) ?_
    refine GoesW.step (B := T46.setTop (mkF m 78 #[.val (.int i0), .val (.int (3 : Int32)), .val (.ref a_COMPLEX_RELOAD), .val (.int (1 : Int32)), .val (.int (1 : Int32))] [(.int (1 : Int32))])) (fun _ k => XS.iconst X46.here hx rfl (hb hby at_77) k) ?_
    refine GoesW.step (B := T46.setTop (mkF m 82 #[.val (.int i0), .val (.int (3 : Int32)), .val (.ref a_COMPLEX_RELOAD), .val (.int (1 : Int32)), .val (.int (1 : Int32))] [(.int (1 : Int32))])) (fun _ k => XS.goto X46.here hx rfl (pc0 := 78) (pc' := 82) rfl (hb hby at_78) (by decide) (by decide) k) ?_
    exact GoesW.retN X46 hS42 hk42 hx eh46 (t := .boolean) Bd.returns (by simp) hlk (hb hby at_82) (by decide) (by decide) (⟨rfl, N46⟩)
set_option maxRecDepth 65536 in
set_option maxHeartbeats 40000000 in
theorem comes_1 {Post : Tables → Env → Array Value → State → Outcome → State → Prop} (hpost : ∀ tb e args s v u, (limb_1_1.after args s (.returned v) u = true ∧ limb_1_2.after args s (.returned v) u = true ∧ True) → ReturnedEndW s (.returned v) u (Jvm.fieldLocs frame_1_writes args s ++ Jvm.arrayLocs frame_1_arrays args s ++ Jvm.staticLocs frame_1_statics s) 8 1088 → Post tb e args s (.returned v) u) :
    ArmFor flags0 classFile x code maxLocals ret World_1 tables_1 room_1 Calls_1 rest_1 Pre_1 Post := by
  intro l hfl _ _ p e ha hc hk s m args below hf hA hF happ hP
  obtain ⟨hcalls, hrest, hpre⟩ := hP
  obtain ⟨-, -, -, hnamed, -, -, -, hat⟩ := (Spec.applies_iff hf).mp happ
  obtain ⟨hg, hn⟩ := and_e (Cond.before_iff.mp (show (Jvm.Cond.and given_1 narrow_1).before args s = true from hpre))
  obtain ⟨hcount, hg⟩ := and_e hg
  obtain ⟨w0, rfl⟩ : ∃ w0 : Value, args = #[w0] := by
    have hs : args.size = 1 := by simpa [Cond.value, given_1] using hcount
    obtain ⟨L⟩ := args
    match L, hs with
    | [w0], _ => exact ⟨w0, rfl⟩
  have hw := fun d (hd : d ∈ tables_1) => atoms_spec (ws := Jvm.Cond.code x code maxLocals ret :: tables_1) hat d (List.mem_cons_of_mem _ hd)
  have hfit : Fit s := fun {y c} hc i hi => by
    obtain ⟨ha, rfl⟩ := Array.getElem?_eq_some_iff.mp hc
    have q := List.all_eq_true.mp ((Array.all_eq_true_iff_forall_mem.mp hF) _ (Array.getElem_mem ha)) i (List.mem_range.mpr hi)
    simpa [Array.getElem?_eq_getElem hi] using q
  obtain ⟨i0, ei0⟩ := is_v hg
  obtain rfl : w0 = (.int i0) := Option.some.inj ei0
  obtain ⟨hsets, hown0⟩ := atoms_of _ (rest_1_c_eq ▸ (show rest_1_c.before _ s = true from hrest))
  obtain ⟨hn0, hr0⟩ := and_e hn
  obtain ⟨hn1, hr1⟩ := and_e hr0
  obtain ⟨hn2, hr2⟩ := and_e hr1
  obtain ⟨hn3, hr3⟩ := and_e hr2
  obtain ⟨hn4, hr4⟩ := and_e hr3
  obtain ⟨hn5, hr5⟩ := and_e hr4
  obtain ⟨hn6, hr6⟩ := and_e hr5
  obtain ⟨hn7, hr7⟩ := and_e hr6
  obtain ⟨hn8, hr8⟩ := and_e hr7
  obtain ⟨hn9, hr9⟩ := and_e hr8
  obtain ⟨hn10, hr10⟩ := and_e hr9
  obtain ⟨hn11, hr11⟩ := and_e hr10
  obtain ⟨hn12, hr12⟩ := and_e hr11
  obtain ⟨hn13, hr13⟩ := and_e hr12
  obtain ⟨hn14, hr14⟩ := and_e hr13
  obtain ⟨hn15, hr15⟩ := and_e hr14
  obtain ⟨hn16, hr16⟩ := and_e hr15
  obtain ⟨hn17, hr17⟩ := and_e hr16
  obtain ⟨hn18, hr18⟩ := and_e hr17
  obtain ⟨hn19, hr19⟩ := and_e hr18
  obtain ⟨hn20, hr20⟩ := and_e hr19
  obtain ⟨hn21, hr21⟩ := and_e hr20
  obtain ⟨hn22, hr22⟩ := and_e hr21
  obtain ⟨hn23, hr23⟩ := and_e hr22
  obtain ⟨hn24, hr24⟩ := and_e hr23
  obtain ⟨hn25, hr25⟩ := and_e hr24
  obtain ⟨hn26, hr26⟩ := and_e hr25
  obtain ⟨hn27, hr27⟩ := and_e hr26
  obtain ⟨hn28, hr28⟩ := and_e hr27
  obtain ⟨hn29, hr29⟩ := and_e hr28
  obtain ⟨hn30, hr30⟩ := and_e hr29
  obtain ⟨hn31, hr31⟩ := and_e hr30
  obtain ⟨hn32, hr32⟩ := and_e hr31
  obtain ⟨a_NONE, ev_NONE⟩ := exa_v hn0
  have S_NONE := Sta.start ev_NONE (Or.inr ⟨(hw _ (List.mem_of_getElem? (i := 1) rfl)), (hw _ (List.mem_of_getElem? (i := 2) rfl))⟩)
  have E_NONE := Exa.start ev_NONE hn0
  obtain ⟨a_QUICK_RELOAD, ev_QUICK_RELOAD⟩ := exa_v hn1
  have S_QUICK_RELOAD := Sta.start ev_QUICK_RELOAD (Or.inr ⟨(hw _ (List.mem_of_getElem? (i := 1) rfl)), (hw _ (List.mem_of_getElem? (i := 9) rfl))⟩)
  have E_QUICK_RELOAD := Exa.start ev_QUICK_RELOAD hn1
  have F_NONE_ordinal : Fld s s.heap a_NONE "java/lang/Enum" "ordinal" "I" (.int (0 : Int32)) := Fld.start ((fld_at ev_NONE).symm.trans (own_eqI hn2))
  have F_QUICK_RELOAD_ordinal : Fld s s.heap a_QUICK_RELOAD "java/lang/Enum" "ordinal" "I" (.int (2 : Int32)) := Fld.start ((fld_at ev_QUICK_RELOAD).symm.trans (own_eqI hn3))
  obtain ⟨a_COMPLEX_RELOAD, ev_COMPLEX_RELOAD⟩ := exa_v hn4
  have S_COMPLEX_RELOAD := Sta.start ev_COMPLEX_RELOAD (Or.inr ⟨(hw _ (List.mem_of_getElem? (i := 1) rfl)), (hw _ (List.mem_of_getElem? (i := 11) rfl))⟩)
  have E_COMPLEX_RELOAD := Exa.start ev_COMPLEX_RELOAD hn4
  have F_COMPLEX_RELOAD_ordinal : Fld s s.heap a_COMPLEX_RELOAD "java/lang/Enum" "ordinal" "I" (.int (3 : Int32)) := Fld.start ((fld_at ev_COMPLEX_RELOAD).symm.trans (own_eqI hn5))
  have nv_NONE_spent := null_v hn6
  have F_NONE_spent : Fld s s.heap a_NONE "com/example/roundkeeper/roundkeeper/rulesets/sealedorders/Weapon$Loading" "spent" "Ljava/lang/String;" .null := Fld.start ((fld_at ev_NONE).symm.trans nv_NONE_spent)
  obtain ⟨a_COMPLEX_RELOAD_spent, ev_COMPLEX_RELOAD_spent⟩ := exa_v hn7
  have F_COMPLEX_RELOAD_spent : Fld s s.heap a_COMPLEX_RELOAD "com/example/roundkeeper/roundkeeper/rulesets/sealedorders/Weapon$Loading" "spent" "Ljava/lang/String;" (.ref a_COMPLEX_RELOAD_spent) := Fld.start ((fld_at ev_COMPLEX_RELOAD).symm.trans ev_COMPLEX_RELOAD_spent)
  have E_COMPLEX_RELOAD_spent := Exa.start ev_COMPLEX_RELOAD_spent hn7
  have F_COMPLEX_RELOAD_spent_coder : Fld s s.heap a_COMPLEX_RELOAD_spent "java/lang/String" "coder" "B" (.int (0 : Int32)) := Fld.start ((fld_at ev_COMPLEX_RELOAD_spent).symm.trans (own_eqI hn8))
  obtain ⟨a_COMPLEX_RELOAD_spent_value, ev_COMPLEX_RELOAD_spent_value⟩ := arr_v hn9
  have F_COMPLEX_RELOAD_spent_value : Fld s s.heap a_COMPLEX_RELOAD_spent "java/lang/String" "value" "[B" (.ref a_COMPLEX_RELOAD_spent_value) := Fld.start ((fld_at ev_COMPLEX_RELOAD_spent).symm.trans ev_COMPLEX_RELOAD_spent_value)
  obtain ⟨c_COMPLEX_RELOAD_spent_value, A_COMPLEX_RELOAD_spent_value⟩ := Arr.start ev_COMPLEX_RELOAD_spent_value hn9
  have ev_QUICK_RELOAD_spent := own_eqR ev_COMPLEX_RELOAD_spent hn11
  have F_QUICK_RELOAD_spent : Fld s s.heap a_QUICK_RELOAD "com/example/roundkeeper/roundkeeper/rulesets/sealedorders/Weapon$Loading" "spent" "Ljava/lang/String;" (.ref a_COMPLEX_RELOAD_spent) := Fld.start ((fld_at ev_QUICK_RELOAD).symm.trans ev_QUICK_RELOAD_spent)
  obtain ⟨a_THROWN, ev_THROWN⟩ := exa_v hn12
  have S_THROWN := Sta.start ev_THROWN (Or.inr ⟨(hw _ (List.mem_of_getElem? (i := 1) rfl)), (hw _ (List.mem_of_getElem? (i := 44) rfl))⟩)
  have E_THROWN := Exa.start ev_THROWN hn12
  have F_THROWN_ordinal : Fld s s.heap a_THROWN "java/lang/Enum" "ordinal" "I" (.int (1 : Int32)) := Fld.start ((fld_at ev_THROWN).symm.trans (own_eqI hn13))
  obtain ⟨a_THROWN_spent, ev_THROWN_spent⟩ := exa_v hn14
  have F_THROWN_spent : Fld s s.heap a_THROWN "com/example/roundkeeper/roundkeeper/rulesets/sealedorders/Weapon$Loading" "spent" "Ljava/lang/String;" (.ref a_THROWN_spent) := Fld.start ((fld_at ev_THROWN).symm.trans ev_THROWN_spent)
  have E_THROWN_spent := Exa.start ev_THROWN_spent hn14
  have F_THROWN_spent_coder : Fld s s.heap a_THROWN_spent "java/lang/String" "coder" "B" (.int (0 : Int32)) := Fld.start ((fld_at ev_THROWN_spent).symm.trans (own_eqI hn15))
  obtain ⟨a_THROWN_spent_value, ev_THROWN_spent_value⟩ := arr_v hn16
  have F_THROWN_spent_value : Fld s s.heap a_THROWN_spent "java/lang/String" "value" "[B" (.ref a_THROWN_spent_value) := Fld.start ((fld_at ev_THROWN_spent).symm.trans ev_THROWN_spent_value)
  obtain ⟨c_THROWN_spent_value, A_THROWN_spent_value⟩ := Arr.start ev_THROWN_spent_value hn16
  obtain ⟨l1_COMPLEX_RELOAD_spent_value, l2_COMPLEX_RELOAD_spent_value⟩ := own_len A_COMPLEX_RELOAD_spent_value ev_COMPLEX_RELOAD_spent_value hn10
  have V_COMPLEX_RELOAD_spent_value : Arv s s.heap a_COMPLEX_RELOAD_spent_value c_COMPLEX_RELOAD_spent_value.cls .byte (10 : Int32) [(.int (110 : Int32)), (.int (111 : Int32)), (.int (116 : Int32)), (.int (32 : Int32)), (.int (108 : Int32)), (.int (111 : Int32)), (.int (97 : Int32)), (.int (100 : Int32)), (.int (101 : Int32)), (.int (100 : Int32))] (.int (0 : Int32)) := Arv.start hfit A_COMPLEX_RELOAD_spent_value l1_COMPLEX_RELOAD_spent_value l2_COMPLEX_RELOAD_spent_value (by decide) (by decide) (And.intro (own_el A_COMPLEX_RELOAD_spent_value ev_COMPLEX_RELOAD_spent_value hn18) (And.intro (own_el A_COMPLEX_RELOAD_spent_value ev_COMPLEX_RELOAD_spent_value hn19) (And.intro (own_el A_COMPLEX_RELOAD_spent_value ev_COMPLEX_RELOAD_spent_value hn20) (And.intro (own_el A_COMPLEX_RELOAD_spent_value ev_COMPLEX_RELOAD_spent_value hn21) (And.intro (own_el A_COMPLEX_RELOAD_spent_value ev_COMPLEX_RELOAD_spent_value hn22) (And.intro (own_el A_COMPLEX_RELOAD_spent_value ev_COMPLEX_RELOAD_spent_value hn23) (And.intro (own_el A_COMPLEX_RELOAD_spent_value ev_COMPLEX_RELOAD_spent_value hn24) (And.intro (own_el A_COMPLEX_RELOAD_spent_value ev_COMPLEX_RELOAD_spent_value hn25) (And.intro (own_el A_COMPLEX_RELOAD_spent_value ev_COMPLEX_RELOAD_spent_value hn26) (And.intro (own_el A_COMPLEX_RELOAD_spent_value ev_COMPLEX_RELOAD_spent_value hn27) trivial))))))))))
  obtain ⟨l1_THROWN_spent_value, l2_THROWN_spent_value⟩ := own_len A_THROWN_spent_value ev_THROWN_spent_value hn17
  have V_THROWN_spent_value : Arv s s.heap a_THROWN_spent_value c_THROWN_spent_value.cls .byte (6 : Int32) [(.int (116 : Int32)), (.int (104 : Int32)), (.int (114 : Int32)), (.int (111 : Int32)), (.int (119 : Int32)), (.int (110 : Int32))] (.int (0 : Int32)) := Arv.start hfit A_THROWN_spent_value l1_THROWN_spent_value l2_THROWN_spent_value (by decide) (by decide) (And.intro (own_el A_THROWN_spent_value ev_THROWN_spent_value hn28) (And.intro (own_el A_THROWN_spent_value ev_THROWN_spent_value hn29) (And.intro (own_el A_THROWN_spent_value ev_THROWN_spent_value hn30) (And.intro (own_el A_THROWN_spent_value ev_THROWN_spent_value hn31) (And.intro (own_el A_THROWN_spent_value ev_THROWN_spent_value hn32) (And.intro (own_el A_THROWN_spent_value ev_THROWN_spent_value hr32) trivial))))))
  obtain ⟨cs, ecs⟩ := is_v (Cond.before_iff.mp (hsets _ (List.mem_of_getElem? (i := 1) rfl)))
  have S_COMPACT_STRINGS := Sta.start ecs (Or.inl (hsets _ (List.mem_of_getElem? (i := 0) rfl)))
  have hcs : ¬ cs = (0 : Int32) := fun q => by
    have q2 := not_v (Cond.before_iff.mp (hsets _ (List.mem_of_getElem? (i := 2) rfl)))
    simp [Jvm.Cond.value, ecs, Term.int_eval, q] at q2
  have hcw : Jvm.Lit.compactW.before _ s = true := (hsets _ (List.mem_of_getElem? (i := 2) rfl))
  have FS : OwnSt s a_NONE a_QUICK_RELOAD a_COMPLEX_RELOAD a_COMPLEX_RELOAD_spent a_COMPLEX_RELOAD_spent_value a_THROWN a_THROWN_spent a_THROWN_spent_value c_COMPLEX_RELOAD_spent_value.cls c_THROWN_spent_value.cls cs := ⟨S_NONE, E_NONE, S_QUICK_RELOAD, E_QUICK_RELOAD, F_NONE_ordinal, F_QUICK_RELOAD_ordinal, S_COMPLEX_RELOAD, E_COMPLEX_RELOAD, F_COMPLEX_RELOAD_ordinal, F_NONE_spent, F_COMPLEX_RELOAD_spent, E_COMPLEX_RELOAD_spent, F_COMPLEX_RELOAD_spent_coder, F_COMPLEX_RELOAD_spent_value, F_QUICK_RELOAD_spent, S_THROWN, E_THROWN, F_THROWN_ordinal, F_THROWN_spent, E_THROWN_spent, F_THROWN_spent_coder, F_THROWN_spent_value, V_COMPLEX_RELOAD_spent_value, V_THROWN_spent_value, S_COMPACT_STRINGS, hcs⟩
  have hCHs : ∀ p ∈ own_EL, Jvm.Lit.constHeld s p.1 p.2 := fun p hp => by
    simp only [own_EL, List.mem_cons, List.not_mem_nil, or_false] at hp
    rcases hp with rfl
    · exact hcalls.1 _ (List.mem_of_getElem? (i := 0) rfl)
  have hH : CHv s own_EL s.vm s.heap := CHv.start (own_EW hw) hCHs hcw (hw _ (List.mem_of_getElem? (i := 15) rfl)) (hw _ (List.mem_of_getElem? (i := 14) rfl))
  obtain ⟨n, o, h1, h2, h3, _, L, rfl, ⟨rfl, N⟩, hq⟩ := rm0 l s _ hw tables_1 i0 a_NONE a_QUICK_RELOAD a_COMPLEX_RELOAD a_COMPLEX_RELOAD_spent a_COMPLEX_RELOAD_spent_value a_THROWN a_THROWN_spent a_THROWN_spent_value c_COMPLEX_RELOAD_spent_value.cls c_THROWN_spent_value.cls cs s.heap s.heap.size (Old.start s) FS p e ha hc hk s m _ below hf ((Spec.applies_iff_loose hf).mp happ).1 ⟨rfl, State.Warmed39.refl s, rfl, hH⟩ trivial
  refine ⟨n, _, h1, h2, h3, hpost _ _ _ _ _ _ ⟨Cond.after_iff.mpr rfl, Cond.after_iff.mpr (eq_i res_at (Term.int_eval (1)) rfl), trivial⟩ ⟨hq.1, hq.2.1, hq.2.2.1, (hq.2.2.2.sift fun y hy => Or.inr (N y hy)).mono (by decide) (by decide)⟩⟩
theorem main_1_1 : Claimed_1_1 := comes_1 fun _ _ _ _ _ _ h hF => ⟨h.1, hF⟩
theorem main_1_2 : Claimed_1_2 := comes_1 fun _ _ _ _ _ _ h hF => ⟨h.2.1, hF⟩
end Jvm.Pilot.@@N@@
namespace Jvm.Pilot.@@N@@
open Jvm Jvm.ClassFile Sem Op Lib Jvm.Free Jvm.Stand Jvm.Pilot.@@N@@.Jvm.D
/-! MADE BY PROGRAM (witnessworld.py) out of the Statement's table words and the real class files: 18 classes; the members and pool entries that the words name. The judged class is class 1, her method 1. -/
namespace start1
open Jvm.ClassFile
def u (s : String) : CpInfo := .utf8 (stringToUtf16 s)
/-- a pool by its gaps: so many unusable entries, then the entry; so many at the end -/
def gap : Nat → List CpInfo → List CpInfo
  | 0, r => r
  | n + 1, r => .unusable :: gap n r
def poolList (es : List (Nat × CpInfo)) (last : Nat) : List CpInfo := es.foldr (fun e r => gap e.1 (e.2 :: r)) (gap last [])
def pool (es : List (Nat × CpInfo)) (last : Nat) : Array CpInfo := ⟨poolList es last⟩
def fileOf (pool : Array CpInfo) (this : Nat) (attrs : Array Attribute := #[]) (ms : Array MethodInfo := #[]) (fl : Nat := 33) (sup : Nat := 0) (ifs : Array Nat := #[]) (fds : Array FieldInfo := #[]) : ClassFile where
  minorVersion := 0
  majorVersion := 65
  constantPool := pool
  accessFlags := fl
  thisClass := this
  superClass := sup
  interfaces := ifs
  fields := fds
  methods := ms
  attributes := attrs
def plain (name : String) (sup : Option ClassId) : Class where
  name := name
  kind := .ordinary
  loader := none
  accessFlags := 33
  super := sup
  interfaces := #[]
  cf := none
  fields := #[]
  methods := #[]
  instanceTypes := #[]
  staticTypes := #[]
  resolved := #[]
  callSites := []
  init := .initialized
  statics := none
  mirror := none

def pool0 : Array CpInfo := pool [(5, u "<init>"), (0, u "()V"), (1, .class_ 10), (1, u "java/lang/Object")] 113

def k0m0 : Method := { name := "<init>", desc := "()V", sig := { parameters := [], returnType := none }, accessFlags := 1, code := none }
/-- java/lang/Object -/
def k0 : Class := { plain "java/lang/Object" none with
  accessFlags := 33
  interfaces := #[]
  cf := some (fileOf pool0 8 #[] #[{ accessFlags := 1, nameIndex := 5, descriptorIndex := 6, attributes := #[] }] 33 0 #[] #[])
  fields := #[]
  methods := #[k0m0]
  instanceTypes := #[]
  staticTypes := #[]
  resolved := Array.replicate 124 none
  statics := none }

def pool1 : Array CpInfo := pool [(2, .class_ 4), (1, u "java/lang/Object"), (0, u "<init>"), (0, u "()V"), (0, .fieldref 8 9), (0, .class_ 10), (0, .nameAndType 11 12), (0, u "com/example/roundkeeper/roundkeeper/rulesets/sealedorders/Weapon$Loading"), (0, u "NONE"), (0, u "Lcom/example/roundkeeper/roundkeeper/rulesets/sealedorders/Weapon$Loading;"), (0, .fieldref 8 14), (0, .nameAndType 15 12), (0, u "THROWN"), (0, .fieldref 8 17), (0, .nameAndType 18 12), (0, u "QUICK_RELOAD"), (0, .fieldref 8 20), (0, .nameAndType 21 12), (0, u "COMPLEX_RELOAD"), (0, .methodref 8 23), (0, .nameAndType 24 25), (0, u "reloads"), (0, u "()Z"), (0, .string 27), (0, u "not loaded"), (0, .methodref 8 29), (0, .nameAndType 30 31), (0, u "spent"), (0, u "()Ljava/lang/String;"), (0, .methodref 33 34), (0, .class_ 35), (0, .nameAndType 36 37), (0, u "java/lang/String"), (0, u "equals"), (0, u "(Ljava/lang/Object;)Z"), (0, .class_ 39), (0, u "com/example/roundkeeper/roundkeeper/rulesets/sealedorders/LoadingReloadsPinLaw"), (2, u "law"), (0, u "(I)Z")] 7

def k1m0 : Method := { name := "<init>", desc := "()V", sig := { parameters := [], returnType := none }, accessFlags := 1, code := none }
def k1c1 : Code := { maxStack := 3, maxLocals := 5, code := code, exceptionTable := #[], attributes := #[] }
def k1m1 : Method := { name := "law", desc := "(I)Z", sig := { parameters := [.int], returnType := some .boolean }, accessFlags := 9, code := some k1c1 }
/-- com/example/roundkeeper/roundkeeper/rulesets/sealedorders/LoadingReloadsPinLaw -/
def k1 : Class := { plain "com/example/roundkeeper/roundkeeper/rulesets/sealedorders/LoadingReloadsPinLaw" (some 0) with
  accessFlags := 49
  interfaces := #[]
  cf := some (fileOf pool1 38 #[] #[{ accessFlags := 1, nameIndex := 5, descriptorIndex := 6, attributes := #[] }, { accessFlags := 9, nameIndex := 42, descriptorIndex := 43, attributes := #[] }] 49 2 #[] #[])
  fields := #[]
  methods := #[k1m0, k1m1]
  instanceTypes := #[]
  staticTypes := #[]
  resolved := Array.replicate 51 none
  statics := none }

def pool2 : Array CpInfo := pool [(1, .class_ 2), (0, u "java/lang/constant/Constable"), (0, .class_ 4), (0, u "java/lang/Object")] 6

/-- java/lang/constant/Constable -/
def k2 : Class := { plain "java/lang/constant/Constable" (some 0) with
  accessFlags := 1537
  interfaces := #[]
  cf := some (fileOf pool2 1 #[] #[] 1537 3 #[] #[])
  fields := #[]
  methods := #[]
  instanceTypes := #[]
  staticTypes := #[]
  resolved := Array.replicate 11 none
  statics := none }

def pool3 : Array CpInfo := pool [(1, .class_ 2), (0, u "java/lang/Comparable"), (0, .class_ 4), (0, u "java/lang/Object")] 7

/-- java/lang/Comparable -/
def k3 : Class := { plain "java/lang/Comparable" (some 0) with
  accessFlags := 1537
  interfaces := #[]
  cf := some (fileOf pool3 1 #[] #[] 1537 3 #[] #[])
  fields := #[]
  methods := #[]
  instanceTypes := #[]
  staticTypes := #[]
  resolved := Array.replicate 12 none
  statics := none }

def pool4 : Array CpInfo := pool [(1, .class_ 2), (0, u "java/io/Serializable"), (0, .class_ 4), (0, u "java/lang/Object")] 2

/-- java/io/Serializable -/
def k4 : Class := { plain "java/io/Serializable" (some 0) with
  accessFlags := 1537
  interfaces := #[]
  cf := some (fileOf pool4 1 #[] #[] 1537 3 #[] #[])
  fields := #[]
  methods := #[]
  instanceTypes := #[]
  staticTypes := #[]
  resolved := Array.replicate 7 none
  statics := none }

def pool5 : Array CpInfo := pool [(2, .class_ 4), (1, u "java/lang/Enum"), (0, u "name"), (0, u "Ljava/lang/String;"), (2, u "ordinal"), (0, u "I"), (1, .class_ 14), (1, u "java/lang/Object"), (4, u "hash"), (86, .class_ 108), (1, u "java/lang/Enum$EnumDesc"), (2, .class_ 112), (0, u "java/lang/constant/Constable"), (0, .class_ 114), (0, u "java/lang/Comparable"), (0, .class_ 116), (0, u "java/io/Serializable")] 87

/-- java/lang/Enum -/
def k5 : Class := { plain "java/lang/Enum" (some 0) with
  accessFlags := 1057
  interfaces := #[2, 3, 4]
  cf := some (fileOf pool5 2 #[.nestMembers #[106]] #[] 1057 12 #[111, 113, 115] #[{ accessFlags := 18, nameIndex := 5, descriptorIndex := 6, attributes := #[] }, { accessFlags := 18, nameIndex := 9, descriptorIndex := 10, attributes := #[] }, { accessFlags := 2, nameIndex := 19, descriptorIndex := 10, attributes := #[] }])
  fields := #[{ name := "name", type := (.object "java/lang/String"), accessFlags := 18, slot := 0, constantValue := 0 }, { name := "ordinal", type := .int, accessFlags := 18, slot := 1, constantValue := 0 }, { name := "hash", type := .int, accessFlags := 2, slot := 2, constantValue := 0 }]
  methods := #[]
  instanceTypes := #[(.object "java/lang/String"), .int, .int]
  staticTypes := #[]
  resolved := Array.replicate 204 none
  statics := none }

def pool6 : Array CpInfo := pool [(1, .class_ 2), (0, u "com/example/roundkeeper/roundkeeper/rulesets/sealedorders/Weapon$Loading"), (2, u "NONE"), (0, u "Lcom/example/roundkeeper/roundkeeper/rulesets/sealedorders/Weapon$Loading;"), (2, u "THROWN"), (0, .fieldref 1 11), (0, .nameAndType 12 6), (0, u "QUICK_RELOAD"), (0, .fieldref 1 14), (0, .nameAndType 15 6), (0, u "COMPLEX_RELOAD"), (2, u "$VALUES"), (0, u "[Lcom/example/roundkeeper/roundkeeper/rulesets/sealedorders/Weapon$Loading;"), (6, .class_ 28), (1, u "java/lang/Enum"), (6, .fieldref 1 36), (0, .nameAndType 37 38), (0, u "spent"), (0, u "Ljava/lang/String;"), (23, u "()Z"), (1, u "()Ljava/lang/String;"), (0, u "reloads"), (7, .class_ 74), (0, u "com/example/roundkeeper/roundkeeper/rulesets/sealedorders/Weapon")] 2

def k6c0 : Code := { maxStack := 1, maxLocals := 1, code := prog_37_method_5_code, exceptionTable := #[], attributes := #[] }
def k6m0 : Method := { name := "spent", desc := "()Ljava/lang/String;", sig := { parameters := [], returnType := some (.object "java/lang/String") }, accessFlags := 0, code := some k6c0 }
def k6c1 : Code := { maxStack := 2, maxLocals := 1, code := prog_37_method_6_code, exceptionTable := #[], attributes := #[] }
def k6m1 : Method := { name := "reloads", desc := "()Z", sig := { parameters := [], returnType := some .boolean }, accessFlags := 0, code := some k6c1 }
/-- com/example/roundkeeper/roundkeeper/rulesets/sealedorders/Weapon$Loading -/
def k6 : Class := { plain "com/example/roundkeeper/roundkeeper/rulesets/sealedorders/Weapon$Loading" (some 5) with
  accessFlags := 16432
  interfaces := #[]
  cf := some (fileOf pool6 1 #[.nestHost 73] #[{ accessFlags := 0, nameIndex := 37, descriptorIndex := 64, attributes := #[] }, { accessFlags := 0, nameIndex := 65, descriptorIndex := 62, attributes := #[] }] 16432 26 #[] #[{ accessFlags := 16409, nameIndex := 5, descriptorIndex := 6, attributes := #[] }, { accessFlags := 16409, nameIndex := 9, descriptorIndex := 6, attributes := #[] }, { accessFlags := 16409, nameIndex := 12, descriptorIndex := 6, attributes := #[] }, { accessFlags := 16409, nameIndex := 15, descriptorIndex := 6, attributes := #[] }, { accessFlags := 18, nameIndex := 37, descriptorIndex := 38, attributes := #[] }, { accessFlags := 4122, nameIndex := 18, descriptorIndex := 19, attributes := #[] }])
  fields := #[{ name := "NONE", type := (.object "com/example/roundkeeper/roundkeeper/rulesets/sealedorders/Weapon$Loading"), accessFlags := 16409, slot := 0, constantValue := 0 }, { name := "THROWN", type := (.object "com/example/roundkeeper/roundkeeper/rulesets/sealedorders/Weapon$Loading"), accessFlags := 16409, slot := 1, constantValue := 0 }, { name := "QUICK_RELOAD", type := (.object "com/example/roundkeeper/roundkeeper/rulesets/sealedorders/Weapon$Loading"), accessFlags := 16409, slot := 2, constantValue := 0 }, { name := "COMPLEX_RELOAD", type := (.object "com/example/roundkeeper/roundkeeper/rulesets/sealedorders/Weapon$Loading"), accessFlags := 16409, slot := 3, constantValue := 0 }, { name := "spent", type := (.object "java/lang/String"), accessFlags := 18, slot := 3, constantValue := 0 }, { name := "$VALUES", type := (.array (.object "com/example/roundkeeper/roundkeeper/rulesets/sealedorders/Weapon$Loading")), accessFlags := 4122, slot := 4, constantValue := 0 }]
  methods := #[k6m0, k6m1]
  instanceTypes := #[(.object "java/lang/String"), .int, .int, (.object "java/lang/String")]
  staticTypes := #[(.object "com/example/roundkeeper/roundkeeper/rulesets/sealedorders/Weapon$Loading"), (.object "com/example/roundkeeper/roundkeeper/rulesets/sealedorders/Weapon$Loading"), (.object "com/example/roundkeeper/roundkeeper/rulesets/sealedorders/Weapon$Loading"), (.object "com/example/roundkeeper/roundkeeper/rulesets/sealedorders/Weapon$Loading"), (.array (.object "com/example/roundkeeper/roundkeeper/rulesets/sealedorders/Weapon$Loading"))]
  resolved := Array.replicate 77 none
  statics := some 0 }

def pool7 : Array CpInfo := pool [(2, .class_ 4), (1, u "java/lang/CharSequence"), (42, .class_ 48), (0, u "java/lang/CharSequence$1CodePointIterator"), (10, .class_ 60), (0, u "java/lang/CharSequence$1CharIterator"), (5, .class_ 67), (0, u "java/lang/Object")] 63

/-- java/lang/CharSequence -/
def k7 : Class := { plain "java/lang/CharSequence" (some 0) with
  accessFlags := 1537
  interfaces := #[]
  cf := some (fileOf pool7 2 #[.nestMembers #[47, 59]] #[] 1537 66 #[] #[])
  fields := #[]
  methods := #[]
  instanceTypes := #[]
  staticTypes := #[]
  resolved := Array.replicate 131 none
  statics := none }

def pool8 : Array CpInfo := pool [(1, .class_ 2), (0, u "java/lang/constant/ConstantDesc"), (0, .class_ 4), (0, u "java/lang/Object")] 32

/-- java/lang/constant/ConstantDesc -/
def k8 : Class := { plain "java/lang/constant/ConstantDesc" (some 0) with
  accessFlags := 1537
  interfaces := #[]
  cf := some (fileOf pool8 1 #[] #[] 1537 3 #[] #[])
  fields := #[]
  methods := #[]
  instanceTypes := #[]
  staticTypes := #[]
  resolved := Array.replicate 37 none
  statics := none }

def pool9 : Array CpInfo := pool [(2, .class_ 4), (1, u "java/lang/Object"), (0, u "<init>"), (0, u "()V"), (2, .fieldref 10 11), (0, .class_ 12), (0, .nameAndType 13 14), (0, u "java/lang/String"), (0, u "value"), (0, u "[B"), (0, .fieldref 10 16), (0, .nameAndType 17 18), (0, u "coder"), (0, u "B"), (2, u "hash"), (0, u "I"), (2, u "hashIsZero"), (0, u "Z"), (11, .fieldref 10 39), (0, .nameAndType 40 26), (0, u "COMPACT_STRINGS"), (66, .class_ 109), (1, u "java/lang/StringLatin1"), (431, .methodref 107 542), (0, .nameAndType 543 544), (0, u "equals"), (0, u "([B[B)Z"), (28, u "(Ljava/lang/Object;)Z"), (1, .class_ 576), (0, u "java/lang/CharSequence"), (22, u "CASE_INSENSITIVE_ORDER"), (0, u "Ljava/util/Comparator;"), (500, u "serialPersistentFields"), (0, u "[Ljava/io/ObjectStreamField;"), (0, .class_ 1104), (0, u "java/lang/String$CaseInsensitiveComparator"), (1, .class_ 1107), (0, u "java/io/Serializable"), (0, .class_ 1109), (0, u "java/lang/Comparable"), (0, .class_ 1111), (0, u "java/lang/constant/Constable"), (0, .class_ 1113), (0, u "java/lang/constant/ConstantDesc"), (2, u "serialVersionUID"), (0, u "J"), (3, u "REPL"), (0, u "C"), (2, u "LATIN1"), (1, u "UTF16")] 323

def k9m0 : Method := { name := "<init>", desc := "()V", sig := { parameters := [], returnType := none }, accessFlags := 1, code := none }
def k9c1 : Code := { maxStack := 2, maxLocals := 3, code := jdk_42_method_66_code, exceptionTable := #[], attributes := #[] }
def k9m1 : Method := { name := "equals", desc := "(Ljava/lang/Object;)Z", sig := { parameters := [(.object "java/lang/Object")], returnType := some .boolean }, accessFlags := 1, code := some k9c1 }
/-- java/lang/String -/
def k9 : Class := { plain "java/lang/String" (some 0) with
  accessFlags := 49
  interfaces := #[4, 3, 7, 2, 8]
  cf := some (fileOf pool9 10 #[.nestMembers #[1103]] #[{ accessFlags := 1, nameIndex := 5, descriptorIndex := 6, attributes := #[] }, { accessFlags := 1, nameIndex := 543, descriptorIndex := 573, attributes := #[] }] 49 2 #[1106, 1108, 575, 1110, 1112] #[{ accessFlags := 18, nameIndex := 13, descriptorIndex := 14, attributes := #[] }, { accessFlags := 18, nameIndex := 17, descriptorIndex := 18, attributes := #[] }, { accessFlags := 2, nameIndex := 21, descriptorIndex := 22, attributes := #[] }, { accessFlags := 2, nameIndex := 25, descriptorIndex := 26, attributes := #[] }, { accessFlags := 26, nameIndex := 1116, descriptorIndex := 1117, attributes := #[] }, { accessFlags := 24, nameIndex := 40, descriptorIndex := 26, attributes := #[] }, { accessFlags := 26, nameIndex := 1101, descriptorIndex := 1102, attributes := #[] }, { accessFlags := 26, nameIndex := 1121, descriptorIndex := 1122, attributes := #[] }, { accessFlags := 25, nameIndex := 599, descriptorIndex := 600, attributes := #[] }, { accessFlags := 24, nameIndex := 1125, descriptorIndex := 18, attributes := #[] }, { accessFlags := 24, nameIndex := 1127, descriptorIndex := 18, attributes := #[] }])
  fields := #[{ name := "value", type := (.array .byte), accessFlags := 18, slot := 0, constantValue := 0 }, { name := "coder", type := .byte, accessFlags := 18, slot := 1, constantValue := 0 }, { name := "hash", type := .int, accessFlags := 2, slot := 2, constantValue := 0 }, { name := "hashIsZero", type := .boolean, accessFlags := 2, slot := 3, constantValue := 0 }, { name := "serialVersionUID", type := .long, accessFlags := 26, slot := 0, constantValue := 0 }, { name := "COMPACT_STRINGS", type := .boolean, accessFlags := 24, slot := 1, constantValue := 0 }, { name := "serialPersistentFields", type := (.array (.object "java/io/ObjectStreamField")), accessFlags := 26, slot := 2, constantValue := 0 }, { name := "REPL", type := .char, accessFlags := 26, slot := 3, constantValue := 0 }, { name := "CASE_INSENSITIVE_ORDER", type := (.object "java/util/Comparator"), accessFlags := 25, slot := 4, constantValue := 0 }, { name := "LATIN1", type := .byte, accessFlags := 24, slot := 5, constantValue := 0 }, { name := "UTF16", type := .byte, accessFlags := 24, slot := 6, constantValue := 0 }]
  methods := #[k9m0, k9m1]
  instanceTypes := #[(.array .byte), .byte, .int, .boolean]
  staticTypes := #[.long, .boolean, (.array (.object "java/io/ObjectStreamField")), .char, (.object "java/util/Comparator"), .byte, .byte]
  resolved := Array.replicate 1451 none
  statics := some 1 }

def pool10 : Array CpInfo := pool [(4, .class_ 6), (1, u "java/lang/Object"), (0, u "<init>"), (0, u "()V"), (5, .class_ 16), (1, u "java/lang/StringLatin1"), (104, u "$assertionsDisabled"), (0, u "Z"), (98, .class_ 223), (1, u "java/lang/StringLatin1$LinesSpliterator"), (57, u "equals"), (0, u "([B[B)Z"), (107, .class_ 391), (0, u "java/lang/StringLatin1$CharsSpliterator")] 3

def k10m0 : Method := { name := "<init>", desc := "()V", sig := { parameters := [], returnType := none }, accessFlags := 0, code := none }
def k10c1 : Code := { maxStack := 3, maxLocals := 3, code := jdk_43_method_13_code, exceptionTable := #[], attributes := #[] }
def k10m1 : Method := { name := "equals", desc := "([B[B)Z", sig := { parameters := [(.array .byte), (.array .byte)], returnType := some .boolean }, accessFlags := 9, code := some k10c1 }
/-- java/lang/StringLatin1 -/
def k10 : Class := { plain "java/lang/StringLatin1" (some 0) with
  accessFlags := 48
  interfaces := #[]
  cf := some (fileOf pool10 14 #[.nestMembers #[390, 221]] #[{ accessFlags := 0, nameIndex := 7, descriptorIndex := 8, attributes := #[] }, { accessFlags := 9, nameIndex := 281, descriptorIndex := 282, attributes := #[] }] 48 4 #[] #[{ accessFlags := 4120, nameIndex := 121, descriptorIndex := 122, attributes := #[] }])
  fields := #[{ name := "$assertionsDisabled", type := .boolean, accessFlags := 4120, slot := 0, constantValue := 0 }]
  methods := #[k10m0, k10m1]
  instanceTypes := #[]
  staticTypes := #[.boolean]
  resolved := Array.replicate 395 none
  statics := none }

def pool11 : Array CpInfo := pool [(2, .class_ 4), (1, u "java/lang/Object"), (0, u "<init>"), (0, u "()V"), (17, .class_ 26), (1, u "jdk/internal/util/Preconditions"), (28, .class_ 56), (0, u "jdk/internal/util/Preconditions$4"), (57, .class_ 115), (0, u "jdk/internal/util/Preconditions$1"), (7, u "SIOOBE_FORMATTER"), (0, u "Ljava/util/function/BiFunction;"), (0, .class_ 126), (0, u "jdk/internal/util/Preconditions$2"), (3, u "AIOOBE_FORMATTER"), (0, .class_ 132), (0, u "jdk/internal/util/Preconditions$3"), (3, u "IOOBE_FORMATTER")] 57

def k11m0 : Method := { name := "<init>", desc := "()V", sig := { parameters := [], returnType := none }, accessFlags := 1, code := none }
/-- jdk/internal/util/Preconditions -/
def k11 : Class := { plain "jdk/internal/util/Preconditions" (some 0) with
  accessFlags := 33
  interfaces := #[]
  cf := some (fileOf pool11 24 #[.nestMembers #[55, 131, 125, 114]] #[{ accessFlags := 1, nameIndex := 5, descriptorIndex := 6, attributes := #[] }] 33 2 #[] #[{ accessFlags := 25, nameIndex := 123, descriptorIndex := 124, attributes := #[] }, { accessFlags := 25, nameIndex := 130, descriptorIndex := 124, attributes := #[] }, { accessFlags := 25, nameIndex := 136, descriptorIndex := 124, attributes := #[] }])
  fields := #[{ name := "SIOOBE_FORMATTER", type := (.object "java/util/function/BiFunction"), accessFlags := 25, slot := 0, constantValue := 0 }, { name := "AIOOBE_FORMATTER", type := (.object "java/util/function/BiFunction"), accessFlags := 25, slot := 1, constantValue := 0 }, { name := "IOOBE_FORMATTER", type := (.object "java/util/function/BiFunction"), accessFlags := 25, slot := 2, constantValue := 0 }]
  methods := #[k11m0]
  instanceTypes := #[]
  staticTypes := #[(.object "java/util/function/BiFunction"), (.object "java/util/function/BiFunction"), (.object "java/util/function/BiFunction")]
  resolved := Array.replicate 194 none
  statics := some 2 }

def pool12 : Array CpInfo := pool [(9, u "<init>"), (6, .class_ 18), (1, u "java/lang/Object"), (0, u "()V"), (1, .class_ 23), (1, u "jdk/internal/util/ArraysSupport"), (0, u "LOG2_ARRAY_LONG_INDEX_SCALE"), (0, u "I"), (2, u "U"), (0, u "Ljdk/internal/misc/Unsafe;"), (8, u "BIG_ENDIAN"), (0, u "Z"), (8, u "LOG2_BYTE_BIT_SIZE"), (4, u "LOG2_ARRAY_INT_INDEX_SCALE"), (54, u "JLA"), (0, u "Ljdk/internal/access/JavaLangAccess;"), (11, u "LOG2_ARRAY_BOOLEAN_INDEX_SCALE"), (9, u "LOG2_ARRAY_BYTE_INDEX_SCALE"), (5, u "LOG2_ARRAY_CHAR_INDEX_SCALE"), (5, u "LOG2_ARRAY_SHORT_INDEX_SCALE"), (18, u "LOG2_ARRAY_FLOAT_INDEX_SCALE"), (24, u "LOG2_ARRAY_DOUBLE_INDEX_SCALE"), (89, u "T_BOOLEAN"), (2, u "T_CHAR"), (1, u "T_FLOAT"), (1, u "T_DOUBLE"), (1, u "T_BYTE"), (1, u "T_SHORT"), (1, u "T_INT"), (1, u "T_LONG"), (1, u "SOFT_MAX_ARRAY_LENGTH")] 83

def k12m0 : Method := { name := "<init>", desc := "()V", sig := { parameters := [], returnType := none }, accessFlags := 2, code := none }
/-- jdk/internal/util/ArraysSupport -/
def k12 : Class := { plain "jdk/internal/util/ArraysSupport" (some 0) with
  accessFlags := 33
  interfaces := #[]
  cf := some (fileOf pool12 21 #[] #[{ accessFlags := 2, nameIndex := 9, descriptorIndex := 19, attributes := #[] }] 33 16 #[] #[{ accessFlags := 24, nameIndex := 28, descriptorIndex := 29, attributes := #[] }, { accessFlags := 26, nameIndex := 38, descriptorIndex := 39, attributes := #[] }, { accessFlags := 25, nameIndex := 121, descriptorIndex := 25, attributes := #[] }, { accessFlags := 25, nameIndex := 131, descriptorIndex := 25, attributes := #[] }, { accessFlags := 25, nameIndex := 137, descriptorIndex := 25, attributes := #[] }, { accessFlags := 25, nameIndex := 143, descriptorIndex := 25, attributes := #[] }, { accessFlags := 25, nameIndex := 53, descriptorIndex := 25, attributes := #[] }, { accessFlags := 25, nameIndex := 24, descriptorIndex := 25, attributes := #[] }, { accessFlags := 25, nameIndex := 162, descriptorIndex := 25, attributes := #[] }, { accessFlags := 25, nameIndex := 187, descriptorIndex := 25, attributes := #[] }, { accessFlags := 26, nameIndex := 48, descriptorIndex := 25, attributes := #[] }, { accessFlags := 25, nameIndex := 277, descriptorIndex := 25, attributes := #[] }, { accessFlags := 25, nameIndex := 280, descriptorIndex := 25, attributes := #[] }, { accessFlags := 25, nameIndex := 282, descriptorIndex := 25, attributes := #[] }, { accessFlags := 25, nameIndex := 284, descriptorIndex := 25, attributes := #[] }, { accessFlags := 25, nameIndex := 286, descriptorIndex := 25, attributes := #[] }, { accessFlags := 25, nameIndex := 288, descriptorIndex := 25, attributes := #[] }, { accessFlags := 25, nameIndex := 290, descriptorIndex := 25, attributes := #[] }, { accessFlags := 25, nameIndex := 292, descriptorIndex := 25, attributes := #[] }, { accessFlags := 26, nameIndex := 108, descriptorIndex := 109, attributes := #[] }, { accessFlags := 25, nameIndex := 294, descriptorIndex := 25, attributes := #[] }])
  fields := #[{ name := "U", type := (.object "jdk/internal/misc/Unsafe"), accessFlags := 24, slot := 0, constantValue := 0 }, { name := "BIG_ENDIAN", type := .boolean, accessFlags := 26, slot := 1, constantValue := 0 }, { name := "LOG2_ARRAY_BOOLEAN_INDEX_SCALE", type := .int, accessFlags := 25, slot := 2, constantValue := 0 }, { name := "LOG2_ARRAY_BYTE_INDEX_SCALE", type := .int, accessFlags := 25, slot := 3, constantValue := 0 }, { name := "LOG2_ARRAY_CHAR_INDEX_SCALE", type := .int, accessFlags := 25, slot := 4, constantValue := 0 }, { name := "LOG2_ARRAY_SHORT_INDEX_SCALE", type := .int, accessFlags := 25, slot := 5, constantValue := 0 }, { name := "LOG2_ARRAY_INT_INDEX_SCALE", type := .int, accessFlags := 25, slot := 6, constantValue := 0 }, { name := "LOG2_ARRAY_LONG_INDEX_SCALE", type := .int, accessFlags := 25, slot := 7, constantValue := 0 }, { name := "LOG2_ARRAY_FLOAT_INDEX_SCALE", type := .int, accessFlags := 25, slot := 8, constantValue := 0 }, { name := "LOG2_ARRAY_DOUBLE_INDEX_SCALE", type := .int, accessFlags := 25, slot := 9, constantValue := 0 }, { name := "LOG2_BYTE_BIT_SIZE", type := .int, accessFlags := 26, slot := 10, constantValue := 0 }, { name := "T_BOOLEAN", type := .int, accessFlags := 25, slot := 11, constantValue := 0 }, { name := "T_CHAR", type := .int, accessFlags := 25, slot := 12, constantValue := 0 }, { name := "T_FLOAT", type := .int, accessFlags := 25, slot := 13, constantValue := 0 }, { name := "T_DOUBLE", type := .int, accessFlags := 25, slot := 14, constantValue := 0 }, { name := "T_BYTE", type := .int, accessFlags := 25, slot := 15, constantValue := 0 }, { name := "T_SHORT", type := .int, accessFlags := 25, slot := 16, constantValue := 0 }, { name := "T_INT", type := .int, accessFlags := 25, slot := 17, constantValue := 0 }, { name := "T_LONG", type := .int, accessFlags := 25, slot := 18, constantValue := 0 }, { name := "JLA", type := (.object "jdk/internal/access/JavaLangAccess"), accessFlags := 26, slot := 19, constantValue := 0 }, { name := "SOFT_MAX_ARRAY_LENGTH", type := .int, accessFlags := 25, slot := 20, constantValue := 0 }]
  methods := #[k12m0]
  instanceTypes := #[]
  staticTypes := #[(.object "jdk/internal/misc/Unsafe"), .boolean, .int, .int, .int, .int, .int, .int, .int, .int, .int, .int, .int, .int, .int, .int, .int, .int, .int, (.object "jdk/internal/access/JavaLangAccess"), .int]
  resolved := Array.replicate 378 none
  statics := none }

def pool13 : Array CpInfo := pool [(1, u "java/lang/Cloneable"), (0, .class_ 1), (0, u "java/lang/Object"), (0, .class_ 3)] 3

/-- java/lang/Cloneable -/
def k13 : Class := { plain "java/lang/Cloneable" (some 0) with
  accessFlags := 1537
  interfaces := #[]
  cf := some (fileOf pool13 2 #[] #[] 1537 4 #[] #[])
  fields := #[]
  methods := #[]
  instanceTypes := #[]
  staticTypes := #[]
  resolved := Array.replicate 8 none
  statics := none }

/-- the primitive byte -/
def k14 : Class := { plain "byte" none with kind := .primitive 'B', accessFlags := 0x411 }
/-- [B -/
def k15 : Class := { plain "[B" (some 0) with kind := .array 14 .byte, interfaces := #[13, 4], accessFlags := 1041 }

/-- the primitive int -/
def k16 : Class := { plain "int" none with kind := .primitive 'I', accessFlags := 0x411 }
/-- [I -/
def k17 : Class := { plain "[I" (some 0) with kind := .array 16 .int, interfaces := #[13, 4], accessFlags := 1041 }

def heap : Heap := #[{ cls := 6, slots := #[.ref 3, .ref 4, .ref 5, .ref 6, .null], vm := .statics 6 },
  { cls := 9, slots := #[.long 0, .int 1, .null, .int 0, .null, .int 0, .int 0], vm := .statics 9 },
  { cls := 11, slots := #[.null, .null, .null], vm := .statics 11 },
  { cls := 6, slots := #[.null, .int 0, .int 0, .null], vm := .none },
  { cls := 6, slots := #[.null, .int 1, .int 0, .ref 8], vm := .none },
  { cls := 6, slots := #[.null, .int 2, .int 0, .ref 7], vm := .none },
  { cls := 6, slots := #[.null, .int 3, .int 0, .ref 7], vm := .none },
  { cls := 9, slots := #[.ref 9, .int 0, .int 0, .int 0], vm := .none },
  { cls := 9, slots := #[.ref 10, .int 0, .int 0, .int 0], vm := .none },
  { cls := 15, slots := #[.int 110, .int 111, .int 116, .int 32, .int 108, .int 111, .int 97, .int 100, .int 101, .int 100], vm := .none },
  { cls := 15, slots := #[.int 116, .int 104, .int 114, .int 111, .int 119, .int 110], vm := .none }]
def classes : Array Class := #[k0, k1, k2, k3, k4, k5, k6, k7, k8, k9, k10, k11, k12, k13, k14, k15, k16, k17]
def interned : List (Array UInt16 × Addr) := []
def slotsUsed : Nat := 55
def theMethod : MethodId := ⟨1, 1⟩
def args0 : Array Value := #[.int 5]
def aboutOver (below : List Frame) : State where
  vm := { classes := classes, interned := interned.toArray }
  heap := heap
  slotsUsed := slotsUsed
  threads := #[{ frames := .invoking theMethod args0 :: below }]
def below0 : List Frame := [.native { method := ⟨0, 0⟩, args := #[] }]
def about1 : State := aboutOver below0
def p0 : Program := .bare "" "" ""
def e0 : Env := launch0.env 0 0 0
theorem w_frames : about1.frames = Frame.invoking theMethod args0 :: below0 := rfl
set_option maxRecDepth 65536 in
theorem w_args : argsFit about1.vm theMethod args0 = true := by decide +kernel
set_option maxRecDepth 65536 in
theorem w_heap : heapFits about1 = true := by decide +kernel
set_option maxRecDepth 65536 in
theorem w_runnable : about1.curStatus? = some .runnable := by decide +kernel
set_option maxRecDepth 65536 in
theorem w_alone : about1.alone = true := by decide +kernel
set_option maxRecDepth 65536 in
theorem w_named : about1.methodNamed? x = some theMethod := by decide +kernel
set_option maxRecDepth 65536 in
theorem w_hears : about1.hears theMethod below0 = true := by decide +kernel
set_option maxRecDepth 65536 in
theorem w_ripe : about1.ripe theMethod args0 below0 = true := by decide +kernel
theorem w_running : about1.status = .running := rfl
set_option maxRecDepth 65536 in
theorem w_room : about1.hasRoom e0.platform room_1 = true :=
  launch0.hasRoom_least _ room_1 (by decide +kernel) (by decide +kernel) (by decide +kernel) (by decide +kernel) (by decide +kernel) (by decide +kernel)
theorem allAtoms_all (ts : List Jvm.Cond) (a : Array Jvm.Value) (st : Jvm.State) : (allAtoms ts).before a st = ts.all (fun c => c.before a st) := by
  induction ts with
  | nil => rfl
  | cons c t ih =>
    show (Jvm.Cond.and c (allAtoms t)).before a st = _
    rw [Jvm.Cond.before_and, ih, List.all_cons]
def words1 : List Jvm.Cond := Jvm.Cond.code x code maxLocals ret :: tables_1
/-- a 'code' word, met by the world's own term for the bytes: nothing is compared byte by byte -/
theorem code_word {y : MethodName} {bytes : ByteArray} {mx : Nat} {rt : Option FieldType} {a : Array Value} {s : State} {m : MethodId} {meth : Method} {c : Code} (h1 : s.methodNamed? y = some m) (h2 : s.vm.method? m = some meth) (h3 : meth.code = some c) (h4 : c.code = bytes)
    (h5 : (c.maxLocals == mx && c.exceptionTable.isEmpty && decide (c.maxStack ≤ mostOperands) && decide (meth.sig.returnType = rt) && !meth.locks && decide (parseMethodDescriptor y.desc = some meth.sig)) = true) : (Jvm.Cond.code y bytes mx rt).before a s = true := by
  simp only [Bool.and_eq_true, beq_iff_eq, Bool.not_eq_true', decide_eq_true_eq] at h5
  obtain ⟨⟨⟨⟨⟨g1, g2⟩, g3⟩, g4⟩, g5⟩, g6⟩ := h5
  simp [Cond.before, Cond.holds, Cond.value, h1, h2, h3, h4, g1, g2, g3, g4, g5, g6]
def isCode : Jvm.Cond → Bool
  | .code _ _ _ _ => true
  | _ => false
theorem all_split {L : List Jvm.Cond} {P : Jvm.Cond → Bool} (h1 : L.all (fun c => isCode c || P c) = true) (h2 : ∀ c ∈ L.filter isCode, P c = true) : L.all P = true := by
  refine List.all_eq_true.mpr fun c hc => ?_
  have h := List.all_eq_true.mp h1 c hc
  rcases Bool.eq_false_or_eq_true (isCode c) with hi | hi
  · exact h2 c (List.mem_filter.mpr ⟨hc, hi⟩)
  · simpa [hi] using h
set_option maxRecDepth 65536 in
theorem w_c0 : (Jvm.Cond.code x code maxLocals ret).before args0 about1 = true := code_word (m := ⟨1, 1⟩) (meth := k1m1) (c := k1c1) (by decide +kernel) rfl rfl rfl (by decide +kernel)
set_option maxRecDepth 65536 in
theorem w_c1 : (Jvm.Cond.code ({ cls := "com/example/roundkeeper/roundkeeper/rulesets/sealedorders/Weapon$Loading", name := "reloads", desc := "()Z" } : Jvm.MethodName) prog_37_method_6_code (1 : Nat) (Option.some Jvm.ClassFile.FieldType.boolean)).before args0 about1 = true := code_word (m := ⟨6, 1⟩) (meth := k6m1) (c := k6c1) (by decide +kernel) rfl rfl rfl (by decide +kernel)
set_option maxRecDepth 65536 in
theorem w_c2 : (Jvm.Cond.code ({ cls := "com/example/roundkeeper/roundkeeper/rulesets/sealedorders/Weapon$Loading", name := "spent", desc := "()Ljava/lang/String;" } : Jvm.MethodName) prog_37_method_5_code (1 : Nat) (Option.some (Jvm.ClassFile.FieldType.object "java/lang/String"))).before args0 about1 = true := code_word (m := ⟨6, 0⟩) (meth := k6m0) (c := k6c0) (by decide +kernel) rfl rfl rfl (by decide +kernel)
set_option maxRecDepth 65536 in
theorem w_c3 : (Jvm.Cond.code ({ cls := "java/lang/String", name := "equals", desc := "(Ljava/lang/Object;)Z" } : Jvm.MethodName) jdk_42_method_66_code (3 : Nat) (Option.some Jvm.ClassFile.FieldType.boolean)).before args0 about1 = true := code_word (m := ⟨9, 1⟩) (meth := k9m1) (c := k9c1) (by decide +kernel) rfl rfl rfl (by decide +kernel)
set_option maxRecDepth 65536 in
theorem w_c4 : (Jvm.Cond.code ({ cls := "java/lang/StringLatin1", name := "equals", desc := "([B[B)Z" } : Jvm.MethodName) jdk_43_method_13_code (3 : Nat) (Option.some Jvm.ClassFile.FieldType.boolean)).before args0 about1 = true := code_word (m := ⟨10, 1⟩) (meth := k10m1) (c := k10c1) (by decide +kernel) rfl rfl rfl (by decide +kernel)
def codes1 : List Jvm.Cond := [Jvm.Cond.code x code maxLocals ret, Jvm.Cond.code ({ cls := "com/example/roundkeeper/roundkeeper/rulesets/sealedorders/Weapon$Loading", name := "reloads", desc := "()Z" } : Jvm.MethodName) prog_37_method_6_code (1 : Nat) (Option.some Jvm.ClassFile.FieldType.boolean), Jvm.Cond.code ({ cls := "com/example/roundkeeper/roundkeeper/rulesets/sealedorders/Weapon$Loading", name := "spent", desc := "()Ljava/lang/String;" } : Jvm.MethodName) prog_37_method_5_code (1 : Nat) (Option.some (Jvm.ClassFile.FieldType.object "java/lang/String")), Jvm.Cond.code ({ cls := "java/lang/String", name := "equals", desc := "(Ljava/lang/Object;)Z" } : Jvm.MethodName) jdk_42_method_66_code (3 : Nat) (Option.some Jvm.ClassFile.FieldType.boolean), Jvm.Cond.code ({ cls := "java/lang/StringLatin1", name := "equals", desc := "([B[B)Z" } : Jvm.MethodName) jdk_43_method_13_code (3 : Nat) (Option.some Jvm.ClassFile.FieldType.boolean)]
set_option maxRecDepth 65536 in
theorem codes_eq : words1.filter isCode = codes1 := rfl
theorem w_codes : ∀ c ∈ words1.filter isCode, c.before args0 about1 = true := by
  rw [codes_eq]
  intro c hc
  simp only [codes1, List.mem_cons, List.not_mem_nil, or_false] at hc
  rcases hc with rfl | rfl | rfl | rfl | rfl
  · exact w_c0
  · exact w_c1
  · exact w_c2
  · exact w_c3
  · exact w_c4
set_option maxRecDepth 65536 in
theorem w_t1 : (words1.take 24).all (fun c => isCode c || c.before args0 about1) = true := by decide +kernel
set_option maxRecDepth 65536 in
theorem w_t2 : (words1.drop 24).all (fun c => isCode c || c.before args0 about1) = true := by decide +kernel
theorem w_tables : (allAtoms (Jvm.Cond.code x code maxLocals ret :: tables_1)).before args0 about1 = true := by
  rw [allAtoms_all]
  show words1.all (fun c => c.before args0 about1) = true
  refine all_split ?_ w_codes
  rw [← List.take_append_drop 24 words1, List.all_append, w_t1, w_t2]
  rfl
set_option maxRecDepth 65536 in
theorem w_rest : rest_1_c.before args0 about1 = true := by decide +kernel
set_option maxRecDepth 65536 in
theorem w_case : (Jvm.Cond.and given_1 narrow_1).before args0 about1 = true := by decide +kernel
set_option maxRecDepth 65536 in
theorem w_consts : constsHeld consts_1 about1 := Jvm.Lit.constsHeldB_iff.mp (by decide +kernel)
theorem w_applies : (headSpec (Jvm.Cond.code x code maxLocals ret :: tables_1) room_1).applies x e0.platform about1 = true :=
  (Spec.applies_iff w_frames).mpr ⟨w_running, w_runnable, w_alone, w_named, w_hears, w_ripe, w_room, w_tables⟩
theorem atStart : AtStart classFile x code maxLocals ret World_1 tables_1 room_1 Calls_1 rest_1 Pre_1 launch0 p0 e0 about1 theMethod args0 below0 :=
  ⟨lists_1, trivial, launch0.admits_env _ _ _, launch0.least_env, fairChoices_fair.cas, fairChoices_fair.clock, w_frames, w_args, w_heap, w_applies, ⟨w_consts, trivial⟩, w_rest, w_case⟩
end start1
theorem witness_1 : WitnessClaimed_1 := ⟨start1.p0, start1.e0, start1.about1, start1.theMethod, start1.args0, start1.below0, start1.atStart⟩
end Jvm.Pilot.@@N@@
