import JvmDerived
import JvmDerived.Pilot.@@N@@Statement
import JvmDerived.Pilot.@@N@@Code
set_option linter.unusedVariables false
set_option linter.unusedSimpArgs false
namespace Jvm.RoadKit
open Sem ClassFile Op Lib Jvm.Stand Jvm.Free Jvm.LawKit
section Own
variable {p : Program} {l : Launch} {e : Env} {R : Room} {s : State} {m : MethodId} {args : Array Value} {below : List Frame} {meth : Method} {c : Code} {T : State} {locs : List Loc} {cells slots : Nat} {Q : Option Value → Heap → List Loc → Prop} {k n : Nat} {A B : State} {h : Heap}
/-- from the state A the run comes to its end, with what Q says -/
def Goes (p : Program) (e : Env) (below : List Frame) (s : State) (Q : Option Value → Heap → List Loc → Prop) (k n : Nat) (A : State) : Prop :=
  ∃ s₂ o, Steps p.tables e below A s₂ ∧ s₂.status = .running ∧ Ended s₂ below o ∧ ∃ v L, o = .returned v ∧ Q v s₂.heap L ∧ FrameEnd s o s₂ L k n
theorem Goes.step (q : ∀ t, Steps p.tables e below B t → Steps p.tables e below A t) (g : Goes p e below s Q k n B) : Goes p e below s Q k n A := by
  obtain ⟨s₂, o, h1, h2⟩ := g
  exact ⟨s₂, o, q _ h1, h2⟩
theorem Goes.via (q : Steps p.tables e below A B) (g : Goes p e below s Q k n B) : Goes p e below s Q k n A := by
  obtain ⟨s₂, o, h1, h2⟩ := g
  exact ⟨s₂, o, q.trans h1, h2⟩
theorem Goes.enter {g g' : JFrame} (q : g = g') (h : Goes p e below s Q k n (T.setTop g')) : Goes p e below s Q k n (T.setTop g) := q ▸ h
theorem Goes.out (X : Stand p l e R s m args below meth c T locs cells slots) (eT : T.heap = h) {v : Option Value} (hv : meth.sig.returnType = none → v = none) (hlk : meth.locks = false)
    (hs : ∀ fs, (∀ (f : JFrame) (acts : List Action), f.method = m → f.locked = none → f.entered = [] → (doReturn e (T.setTop f) acts v).1 = T.setFrames fs) → Steps p.tables e below A (T.setFrames fs)) (hk : cells ≤ k) (hn : slots ≤ n) (hQ : Q v h locs) : Goes p e below s Q k n A := by
  obtain ⟨fs, hr, hrun, hended, hW, hsame⟩ := X.leave (v := v) hv hlk
  exact ⟨_, _, hs fs hr, hrun, hended, _, _, rfl, (by show Q v T.heap locs; rw [eT]; exact hQ), ⟨_, rfl⟩, hW, hsame.mono hk hn⟩
theorem own_some {t : FieldType} {v : Option Value} (h : meth.sig.returnType = some t) : meth.sig.returnType = none → v = none := fun q => by rw [h] at q; cases q
theorem Goes.retI (X : Stand p l e R s m args below meth c T locs cells slots) (hx : p.tables.exec = Jvm.exec) (eT : T.heap = h) {pc : Nat} {Ls : Array Slot} {z : Int32} {rest : List Value} (hret : meth.sig.returnType = some .int) (hlk : meth.locks = false) (hd : decode c.code pc = .ok (.ireturn, 1)) (hk : cells ≤ k) (hn : slots ≤ n) (hQ : Q (some (.int z)) h locs) :
    Goes p e below s Q k n (T.setTop (mkF m pc Ls (.int z :: rest))) :=
  Goes.out X eT (own_some hret) hlk (fun fs hr => retOut X hx hret rfl (Or.inl ⟨rfl, Or.inl rfl, z, rfl⟩) hd hr) hk hn hQ
theorem Goes.retN (X : Stand p l e R s m args below meth c T locs cells slots) (hx : p.tables.exec = Jvm.exec) (eT : T.heap = h) {pc : Nat} {Ls : Array Slot} {z : Int32} {t : FieldType} {rest : List Value} (hret : meth.sig.returnType = some t) (ht : t = .boolean ∨ t = .byte ∨ t = .char ∨ t = .short) (hlk : meth.locks = false) (hd : decode c.code pc = .ok (.ireturn, 1)) (hk : cells ≤ k) (hn : slots ≤ n) (hQ : Q (some (.int (nar t z))) h locs) :
    Goes p e below s Q k n (T.setTop (mkF m pc Ls (.int z :: rest))) :=
  Goes.out X eT (own_some hret) hlk (fun fs hr => Jvm.RoadKit.retN X hx hret ht hd hr) hk hn hQ
theorem Goes.retV (X : Stand p l e R s m args below meth c T locs cells slots) (hx : p.tables.exec = Jvm.exec) (eT : T.heap = h) {pc : Nat} {Ls : Array Slot} (hret : meth.sig.returnType = none) (hlk : meth.locks = false) (hd : decode c.code pc = .ok (.return_, 1)) (hk : cells ≤ k) (hn : slots ≤ n) (hQ : Q none h locs) :
    Goes p e below s Q k n (T.setTop (mkF m pc Ls [])) :=
  Goes.out X eT (fun _ => rfl) hlk (fun fs hr => X.returnOut hx hret hd hr) hk hn hQ
theorem Goes.retJ (X : Stand p l e R s m args below meth c T locs cells slots) (hx : p.tables.exec = Jvm.exec) (eT : T.heap = h) {pc : Nat} {Ls : Array Slot} {z : Int64} {rest : List Value} (hret : meth.sig.returnType = some .long) (hlk : meth.locks = false) (hd : decode c.code pc = .ok (.lreturn, 1)) (hk : cells ≤ k) (hn : slots ≤ n) (hQ : Q (some (.long z)) h locs) :
    Goes p e below s Q k n (T.setTop (mkF m pc Ls (.long z :: rest))) :=
  Goes.out X eT (own_some hret) hlk (fun fs hr => retOut X hx hret rfl (Or.inr (Or.inl ⟨rfl, rfl, z, rfl⟩)) hd hr) hk hn hQ
theorem Goes.retD (X : Stand p l e R s m args below meth c T locs cells slots) (hx : p.tables.exec = Jvm.exec) (eT : T.heap = h) {pc : Nat} {Ls : Array Slot} {z : UInt64} {rest : List Value} (hret : meth.sig.returnType = some .double) (hlk : meth.locks = false) (hd : decode c.code pc = .ok (.dreturn, 1)) (hk : cells ≤ k) (hn : slots ≤ n) (hQ : Q (some (.double z)) h locs) :
    Goes p e below s Q k n (T.setTop (mkF m pc Ls (.double z :: rest))) :=
  Goes.out X eT (own_some hret) hlk (fun fs hr => retOut X hx hret rfl (Or.inr (Or.inr (Or.inl ⟨rfl, rfl, z, rfl⟩))) hd hr) hk hn hQ
theorem own_narR {t : FieldType} {w : Value} (h : t.isReference = true) : narrow t w = w := by cases t <;> first | rfl | (cases w <;> first | rfl | cases h)
theorem Goes.retA (X : Stand p l e R s m args below meth c T locs cells slots) (hx : p.tables.exec = Jvm.exec) (eT : T.heap = h) {pc : Nat} {Ls : Array Slot} {w : Value} {t : FieldType} {rest : List Value} (hret : meth.sig.returnType = some t) (ht : t.isReference = true) (hw : w.isRef = true) (hlk : meth.locks = false) (hd : decode c.code pc = .ok (.areturn, 1)) (hk : cells ≤ k) (hn : slots ≤ n) (hQ : Q (some w) h locs) :
    Goes p e below s Q k n (T.setTop (mkF m pc Ls (w :: rest))) :=
  Goes.out X eT (own_some hret) hlk (fun fs hr => retOut X hx hret (own_narR ht) (Or.inr (Or.inr (Or.inr (Or.inr ⟨rfl, ht, hw⟩)))) hd hr) hk hn hQ
theorem own_z {Z : State} {n0 : Nat} (O : Old Z n0 h) : n0 ≤ h.size := O.1 ▸ O.2.1
end Own
end Jvm.RoadKit
namespace Jvm.RoadKit
open Sem ClassFile Op Lib Jvm.Stand Jvm.Free Jvm.LawKit
section OwnW
variable {p : Program} {l : Launch} {e : Env} {R : Room} {s : State} {m : MethodId} {args : Array Value} {below : List Frame} {meth : Method} {c : Code} {T : State} {locs : List Loc} {cells slots : Nat} {Q : Option Value → Heap → List Loc → Prop} {k n : Nat} {A B : State} {h : Heap}
/-- the same, of a run that may intern String constants: the start s, its tables at hand vm0 -/
def GoesW (p : Program) (e : Env) (below : List Frame) (s : State) (Q : Option Value → Heap → List Loc → Prop) (k n : Nat) (A : State) : Prop :=
  ∃ s₂ o, Steps p.tables e below A s₂ ∧ s₂.status = .running ∧ Ended s₂ below o ∧ ∃ v L, o = .returned v ∧ Q v s₂.heap L ∧ ReturnedEndW s o s₂ L k n
theorem GoesW.step (q : ∀ t, Steps p.tables e below B t → Steps p.tables e below A t) (g : GoesW p e below s Q k n B) : GoesW p e below s Q k n A := by
  obtain ⟨s₂, o, h1, h2⟩ := g
  exact ⟨s₂, o, q _ h1, h2⟩
theorem GoesW.via (q : Steps p.tables e below A B) (g : GoesW p e below s Q k n B) : GoesW p e below s Q k n A := by
  obtain ⟨s₂, o, h1, h2⟩ := g
  exact ⟨s₂, o, q.trans h1, h2⟩
theorem GoesW.enter {g g' : JFrame} (q : g = g') (h : GoesW p e below s Q k n (T.setTop g')) : GoesW p e below s Q k n (T.setTop g) := q ▸ h
theorem GoesW.out {vm0 : Vm} {k0 : Nat} (X : Stand p l e R (s.setVm vm0) m args below meth c T locs cells slots) (hS : s.Since vm0 k0) (hk0 : k0 ≤ h.size) (eT : T.heap = h) {v : Option Value} (hv : meth.sig.returnType = none → v = none) (hlk : meth.locks = false)
    (hs : ∀ fs, (∀ (f : JFrame) (acts : List Action), f.method = m → f.locked = none → f.entered = [] → (doReturn e (T.setTop f) acts v).1 = T.setFrames fs) → Steps p.tables e below A (T.setFrames fs)) (hk : cells ≤ k) (hn : slots ≤ n) (hQ : Q v h locs) : GoesW p e below s Q k n A := by
  obtain ⟨fs, hr, hrun, hended, hW1, hW2, hW3, hW4⟩ := X.leaveW hS (by rw [eT]; exact hk0) (v := v) hv hlk
  exact ⟨_, _, hs fs hr, hrun, hended, _, _, rfl, (by show Q v T.heap locs; rw [eT]; exact hQ), hW1, hW2, hW3, hW4.mono hk hn⟩
theorem GoesW.retI {vm0 : Vm} {k0 : Nat} (X : Stand p l e R (s.setVm vm0) m args below meth c T locs cells slots) (hS : s.Since vm0 k0) (hk0 : k0 ≤ h.size) (hx : p.tables.exec = Jvm.exec) (eT : T.heap = h) {pc : Nat} {Ls : Array Slot} {z : Int32} {rest : List Value} (hret : meth.sig.returnType = some .int) (hlk : meth.locks = false) (hd : decode c.code pc = .ok (.ireturn, 1)) (hk : cells ≤ k) (hn : slots ≤ n) (hQ : Q (some (.int z)) h locs) :
    GoesW p e below s Q k n (T.setTop (mkF m pc Ls (.int z :: rest))) :=
  GoesW.out X hS hk0 eT (own_some hret) hlk (fun fs hr => retOut X hx hret rfl (Or.inl ⟨rfl, Or.inl rfl, z, rfl⟩) hd hr) hk hn hQ
theorem GoesW.retN {vm0 : Vm} {k0 : Nat} (X : Stand p l e R (s.setVm vm0) m args below meth c T locs cells slots) (hS : s.Since vm0 k0) (hk0 : k0 ≤ h.size) (hx : p.tables.exec = Jvm.exec) (eT : T.heap = h) {pc : Nat} {Ls : Array Slot} {z : Int32} {t : FieldType} {rest : List Value} (hret : meth.sig.returnType = some t) (ht : t = .boolean ∨ t = .byte ∨ t = .char ∨ t = .short) (hlk : meth.locks = false) (hd : decode c.code pc = .ok (.ireturn, 1)) (hk : cells ≤ k) (hn : slots ≤ n) (hQ : Q (some (.int (nar t z))) h locs) :
    GoesW p e below s Q k n (T.setTop (mkF m pc Ls (.int z :: rest))) :=
  GoesW.out X hS hk0 eT (own_some hret) hlk (fun fs hr => Jvm.RoadKit.retN X hx hret ht hd hr) hk hn hQ
theorem GoesW.retV {vm0 : Vm} {k0 : Nat} (X : Stand p l e R (s.setVm vm0) m args below meth c T locs cells slots) (hS : s.Since vm0 k0) (hk0 : k0 ≤ h.size) (hx : p.tables.exec = Jvm.exec) (eT : T.heap = h) {pc : Nat} {Ls : Array Slot} (hret : meth.sig.returnType = none) (hlk : meth.locks = false) (hd : decode c.code pc = .ok (.return_, 1)) (hk : cells ≤ k) (hn : slots ≤ n) (hQ : Q none h locs) :
    GoesW p e below s Q k n (T.setTop (mkF m pc Ls [])) :=
  GoesW.out X hS hk0 eT (fun _ => rfl) hlk (fun fs hr => X.returnOut hx hret hd hr) hk hn hQ
theorem GoesW.retJ {vm0 : Vm} {k0 : Nat} (X : Stand p l e R (s.setVm vm0) m args below meth c T locs cells slots) (hS : s.Since vm0 k0) (hk0 : k0 ≤ h.size) (hx : p.tables.exec = Jvm.exec) (eT : T.heap = h) {pc : Nat} {Ls : Array Slot} {z : Int64} {rest : List Value} (hret : meth.sig.returnType = some .long) (hlk : meth.locks = false) (hd : decode c.code pc = .ok (.lreturn, 1)) (hk : cells ≤ k) (hn : slots ≤ n) (hQ : Q (some (.long z)) h locs) :
    GoesW p e below s Q k n (T.setTop (mkF m pc Ls (.long z :: rest))) :=
  GoesW.out X hS hk0 eT (own_some hret) hlk (fun fs hr => retOut X hx hret rfl (Or.inr (Or.inl ⟨rfl, rfl, z, rfl⟩)) hd hr) hk hn hQ
theorem GoesW.retA {vm0 : Vm} {k0 : Nat} (X : Stand p l e R (s.setVm vm0) m args below meth c T locs cells slots) (hS : s.Since vm0 k0) (hk0 : k0 ≤ h.size) (hx : p.tables.exec = Jvm.exec) (eT : T.heap = h) {pc : Nat} {Ls : Array Slot} {w : Value} {t : FieldType} {rest : List Value} (hret : meth.sig.returnType = some t) (ht : t.isReference = true) (hw : w.isRef = true) (hlk : meth.locks = false) (hd : decode c.code pc = .ok (.areturn, 1)) (hk : cells ≤ k) (hn : slots ≤ n) (hQ : Q (some w) h locs) :
    GoesW p e below s Q k n (T.setTop (mkF m pc Ls (w :: rest))) :=
  GoesW.out X hS hk0 eT (own_some hret) hlk (fun fs hr => retOut X hx hret (own_narR ht) (Or.inr (Or.inr (Or.inr (Or.inr ⟨rfl, ht, hw⟩)))) hd hr) hk hn hQ
end OwnW
end Jvm.RoadKit
namespace Jvm.RoadKit
open Sem ClassFile Op Lib Jvm.Stand Jvm.Free Jvm.LawKit
section OwnH
variable {p : Program} {l : Launch} {e : Env} {R : Room} {s : State} {m : MethodId} {args : Array Value} {below : List Frame} {meth : Method} {c : Code} {T : State} {locs : List Loc} {cells slots : Nat} {Q : Option Value → Heap → List Loc → Prop} {k n : Nat} {A B : State} {h : Heap} {Z : State} {a0 : Array Value} {EL : List (String × Nat)}
def GoesH (p : Program) (e : Env) (below : List Frame) (s Z : State) (EL : List (String × Nat)) (Q : Option Value → Heap → List Loc → Prop) (k n : Nat) (A : State) : Prop :=
  ∃ s₂ o, Steps p.tables e below A s₂ ∧ s₂.status = .running ∧ Ended s₂ below o ∧ ∃ v L, o = .returned v ∧ Q v s₂.heap L ∧ CHr Z EL s.vm s.heap s₂.vm s₂.heap ∧ ReturnedEndW s o s₂ L k n
theorem GoesH.step (q : ∀ t, Steps p.tables e below B t → Steps p.tables e below A t) (g : GoesH p e below s Z EL Q k n B) : GoesH p e below s Z EL Q k n A := by
  obtain ⟨s₂, o, h1, h2⟩ := g
  exact ⟨s₂, o, q _ h1, h2⟩
theorem GoesH.via (q : Steps p.tables e below A B) (g : GoesH p e below s Z EL Q k n B) : GoesH p e below s Z EL Q k n A := by
  obtain ⟨s₂, o, h1, h2⟩ := g
  exact ⟨s₂, o, q.trans h1, h2⟩
theorem GoesH.enter {g g' : JFrame} (q : g = g') (h : GoesH p e below s Z EL Q k n (T.setTop g')) : GoesH p e below s Z EL Q k n (T.setTop g) := q ▸ h
theorem GoesH.out {vm0 : Vm} {k0 : Nat} (X : Stand p l e R (s.setVm vm0) m args below meth c T locs cells slots) (hS : s.Since vm0 k0) (hk0 : k0 ≤ h.size) (hZ : Z.Warmed39 (s.setVm vm0).vm) (hEL : EW Z a0 EL) (hCH : CHr Z EL s.vm s.heap vm0 h) (eT : T.heap = h) {v : Option Value} (hv : meth.sig.returnType = none → v = none) (hlk : meth.locks = false)
    (hs : ∀ fs, (∀ (f : JFrame) (acts : List Action), f.method = m → f.locked = none → f.entered = [] → (doReturn e (T.setTop f) acts v).1 = T.setFrames fs) → Steps p.tables e below A (T.setFrames fs)) (hk : cells ≤ k) (hn : slots ≤ n) (hQ : Q v h locs) : GoesH p e below s Z EL Q k n A := by
  obtain ⟨fs, hr, hrun, hended, hW1, hW2, hW3, hW4⟩ := X.leaveW hS (by rw [eT]; exact hk0) (v := v) hv hlk
  exact ⟨_, _, hs fs hr, hrun, hended, _, _, rfl, (by show Q v T.heap locs; rw [eT]; exact hQ), (by show CHr Z EL s.vm s.heap T.vm T.heap; rw [eT]; exact hCH.trans (CHv.at X hZ hEL hCH.1)), hW1, hW2, hW3, hW4.mono hk hn⟩
theorem GoesH.retI {vm0 : Vm} {k0 : Nat} (X : Stand p l e R (s.setVm vm0) m args below meth c T locs cells slots) (hS : s.Since vm0 k0) (hk0 : k0 ≤ h.size) (hZ : Z.Warmed39 (s.setVm vm0).vm) (hEL : EW Z a0 EL) (hCH : CHr Z EL s.vm s.heap vm0 h) (hx : p.tables.exec = Jvm.exec) (eT : T.heap = h) {pc : Nat} {Ls : Array Slot} {z : Int32} {rest : List Value} (hret : meth.sig.returnType = some .int) (hlk : meth.locks = false) (hd : decode c.code pc = .ok (.ireturn, 1)) (hk : cells ≤ k) (hn : slots ≤ n) (hQ : Q (some (.int z)) h locs) :
    GoesH p e below s Z EL Q k n (T.setTop (mkF m pc Ls (.int z :: rest))) :=
  GoesH.out X hS hk0 hZ hEL hCH eT (own_some hret) hlk (fun fs hr => retOut X hx hret rfl (Or.inl ⟨rfl, Or.inl rfl, z, rfl⟩) hd hr) hk hn hQ
theorem GoesH.retN {vm0 : Vm} {k0 : Nat} (X : Stand p l e R (s.setVm vm0) m args below meth c T locs cells slots) (hS : s.Since vm0 k0) (hk0 : k0 ≤ h.size) (hZ : Z.Warmed39 (s.setVm vm0).vm) (hEL : EW Z a0 EL) (hCH : CHr Z EL s.vm s.heap vm0 h) (hx : p.tables.exec = Jvm.exec) (eT : T.heap = h) {pc : Nat} {Ls : Array Slot} {z : Int32} {t : FieldType} {rest : List Value} (hret : meth.sig.returnType = some t) (ht : t = .boolean ∨ t = .byte ∨ t = .char ∨ t = .short) (hlk : meth.locks = false) (hd : decode c.code pc = .ok (.ireturn, 1)) (hk : cells ≤ k) (hn : slots ≤ n) (hQ : Q (some (.int (nar t z))) h locs) :
    GoesH p e below s Z EL Q k n (T.setTop (mkF m pc Ls (.int z :: rest))) :=
  GoesH.out X hS hk0 hZ hEL hCH eT (own_some hret) hlk (fun fs hr => Jvm.RoadKit.retN X hx hret ht hd hr) hk hn hQ
theorem GoesH.retV {vm0 : Vm} {k0 : Nat} (X : Stand p l e R (s.setVm vm0) m args below meth c T locs cells slots) (hS : s.Since vm0 k0) (hk0 : k0 ≤ h.size) (hZ : Z.Warmed39 (s.setVm vm0).vm) (hEL : EW Z a0 EL) (hCH : CHr Z EL s.vm s.heap vm0 h) (hx : p.tables.exec = Jvm.exec) (eT : T.heap = h) {pc : Nat} {Ls : Array Slot} (hret : meth.sig.returnType = none) (hlk : meth.locks = false) (hd : decode c.code pc = .ok (.return_, 1)) (hk : cells ≤ k) (hn : slots ≤ n) (hQ : Q none h locs) :
    GoesH p e below s Z EL Q k n (T.setTop (mkF m pc Ls [])) :=
  GoesH.out X hS hk0 hZ hEL hCH eT (fun _ => rfl) hlk (fun fs hr => X.returnOut hx hret hd hr) hk hn hQ
theorem GoesH.retJ {vm0 : Vm} {k0 : Nat} (X : Stand p l e R (s.setVm vm0) m args below meth c T locs cells slots) (hS : s.Since vm0 k0) (hk0 : k0 ≤ h.size) (hZ : Z.Warmed39 (s.setVm vm0).vm) (hEL : EW Z a0 EL) (hCH : CHr Z EL s.vm s.heap vm0 h) (hx : p.tables.exec = Jvm.exec) (eT : T.heap = h) {pc : Nat} {Ls : Array Slot} {z : Int64} {rest : List Value} (hret : meth.sig.returnType = some .long) (hlk : meth.locks = false) (hd : decode c.code pc = .ok (.lreturn, 1)) (hk : cells ≤ k) (hn : slots ≤ n) (hQ : Q (some (.long z)) h locs) :
    GoesH p e below s Z EL Q k n (T.setTop (mkF m pc Ls (.long z :: rest))) :=
  GoesH.out X hS hk0 hZ hEL hCH eT (own_some hret) hlk (fun fs hr => retOut X hx hret rfl (Or.inr (Or.inl ⟨rfl, rfl, z, rfl⟩)) hd hr) hk hn hQ
theorem GoesH.retA {vm0 : Vm} {k0 : Nat} (X : Stand p l e R (s.setVm vm0) m args below meth c T locs cells slots) (hS : s.Since vm0 k0) (hk0 : k0 ≤ h.size) (hZ : Z.Warmed39 (s.setVm vm0).vm) (hEL : EW Z a0 EL) (hCH : CHr Z EL s.vm s.heap vm0 h) (hx : p.tables.exec = Jvm.exec) (eT : T.heap = h) {pc : Nat} {Ls : Array Slot} {w : Value} {t : FieldType} {rest : List Value} (hret : meth.sig.returnType = some t) (ht : t.isReference = true) (hw : w.isRef = true) (hlk : meth.locks = false) (hd : decode c.code pc = .ok (.areturn, 1)) (hk : cells ≤ k) (hn : slots ≤ n) (hQ : Q (some w) h locs) :
    GoesH p e below s Z EL Q k n (T.setTop (mkF m pc Ls (w :: rest))) :=
  GoesH.out X hS hk0 hZ hEL hCH eT (own_some hret) hlk (fun fs hr => retOut X hx hret (own_narR ht) (Or.inr (Or.inr (Or.inr (Or.inr ⟨rfl, ht, hw⟩)))) hd hr) hk hn hQ
theorem backOfSHs {vm0 : Vm} {x : Addr} {y : MethodName} {bytes : ByteArray} {maxL : Nat} {ret : Option FieldType} {rm : Room} {len W : Nat} {as' : Array Value} {Q : Option Value → Heap → List Loc → Prop}
    (hM : MetFree l y (head1 [Cond.code y bytes maxL ret] rm) (fun a U => a = as' ∧ Z.Warmed39 U.vm ∧ U.heap = h ∧ CHv Z EL U.vm h ∧ Safe Z EL U.vm h x) (fun _ _ _ _ _ => True) (fun _ U o U' => ∃ v L, o = .returned v ∧ Q v U'.heap L ∧ CHr Z EL U.vm U.heap U'.vm U'.heap ∧ ReturnedEndW U o U' L rm.cells rm.slots))
    (hZ : Z.Warmed39 vm0) (wc : (Cond.code y bytes maxL ret).before a0 Z = true) (wz : (Cond.initialized y.cls).before a0 Z = true) (hf : rm.frames + 1 ≤ R.frames) (hl : W + (maxL + 11) + rm.locals ≤ R.locals) (hEL : EW Z a0 EL) (H : CHv Z EL vm0 h) (hx : x < h.size) (S : Safe Z EL vm0 h x) :
    BackS l R p e below (s.setVm vm0) args y len W (fun A a => a = as' ∧ A.U.heap = h ∧ A.cells + rm.cells ≤ R.cells ∧ A.slots + rm.slots ≤ R.slots)
      (fun A _ v B => ∃ L, Q v B.U.heap L ∧ B.locs = A.locs ++ L ∧ B.cells = A.cells + rm.cells ∧ B.slots = A.slots + rm.slots ∧ CHr Z EL vm0 h B.U.vm B.U.heap) :=
  BackS.of_freeW (bytes := bytes) (maxL := maxL) (ret := ret) (E := fun _ first o t L k n => k = rm.cells ∧ n = rm.slots ∧ (∃ v, o = .returned v ∧ Q v t.heap L) ∧ CHr Z EL first.vm first.heap t.vm t.heap) hM hf hl
    (fun m meth c A a Y hp => have hU : Z.Warmed39 A.U.vm := wtrans (s := s.setVm vm0) hZ Y.warmed
      ⟨by show (Cond.and _ .tt).before a A.U = true; rw [Cond.before_and, mv hU wc]; rfl, mv hU wc, mv hU wz, hp.2.2.1, hp.2.2.2⟩)
    (fun m meth c A a g mk Y hp => ⟨hp.1, wtrans (s := s.setVm vm0) hZ Y.warmed, hp.2.1, (CHv.at Y hZ hEL H).1, (CHv.at Y hZ hEL H).safe hx S⟩) (fun _ _ _ _ _ _ _ _ _ => trivial)
    (fun _ _ _ _ ⟨v, L, h1, h2, h3, h4⟩ => ⟨L, _, _, h4, rfl, rfl, ⟨v, h1, h2⟩, h3⟩)
    (fun m meth c A a g mk v t L k n Y hp _ _ ⟨e1, e2, ⟨v', e3, e4⟩, e5⟩ => by
      cases e3; subst e1 e2
      refine ⟨L, e4, rfl, rfl, rfl, (CHv.at Y hZ hEL H).trans ?_⟩
      rw [← hp.2.1]; exact e5)
end OwnH
end Jvm.RoadKit
namespace Jvm.RoadKit
open Sem ClassFile Op Lib Jvm.Stand Jvm.Free Jvm.LawKit
section OwnP
variable {p : Program} {e : Env} {below : List Frame} {T : State} {m : MethodId} {c : Code} {pc pc' : Nat} {Ls l' : Array Slot} {S : List Value}
theorem pw_iload {k : Nat} {v : Int32} (h : At T m c below) (hx : p.tables.exec = Jvm.exec) (hd : decode c.code pc = .ok (.iload k, 2)) (hl : Ls[k]? = some (.val (.int v))) (t : State) (q : Steps p.tables e below (T.setTop (mkF m (pc + 2) Ls (.int v :: S))) t) : Steps p.tables e below (T.setTop (mkF m pc Ls (S))) t := XS.iload (g := mkF m pc Ls (S)) h hx rfl hd hl q
theorem pw_iloadN {k : Fin 4} {v : Int32} (h : At T m c below) (hx : p.tables.exec = Jvm.exec) (hd : decode c.code pc = .ok (.iload_n k, 1)) (hl : Ls[k.val]? = some (.val (.int v))) (t : State) (q : Steps p.tables e below (T.setTop (mkF m (pc + 1) Ls (.int v :: S))) t) : Steps p.tables e below (T.setTop (mkF m pc Ls (S))) t := XS.iloadN (g := mkF m pc Ls (S)) h hx rfl hd hl q
theorem pw_aload {k : Nat} {v : Value} (h : At T m c below) (hx : p.tables.exec = Jvm.exec) (hd : decode c.code pc = .ok (.aload k, 2)) (hl : Ls[k]? = some (.val v)) (hv : v.isRef = true) (t : State) (q : Steps p.tables e below (T.setTop (mkF m (pc + 2) Ls (v :: S))) t) : Steps p.tables e below (T.setTop (mkF m pc Ls (S))) t := XS.aload (g := mkF m pc Ls (S)) h hx rfl hd hl hv q
theorem pw_aloadN {k : Fin 4} {v : Value} (h : At T m c below) (hx : p.tables.exec = Jvm.exec) (hd : decode c.code pc = .ok (.aload_n k, 1)) (hl : Ls[k.val]? = some (.val v)) (hv : v.isRef = true) (t : State) (q : Steps p.tables e below (T.setTop (mkF m (pc + 1) Ls (v :: S))) t) : Steps p.tables e below (T.setTop (mkF m pc Ls (S))) t := XS.aloadN (g := mkF m pc Ls (S)) h hx rfl hd hl hv q
theorem pw_istore {k : Nat} {x : Int32} (h : At T m c below) (hx : p.tables.exec = Jvm.exec) (hd : decode c.code pc = .ok (.istore k, 2)) (hl : storeLocals Ls k (.int x) = some l') (t : State) (q : Steps p.tables e below (T.setTop (mkF m (pc + 2) l' (S))) t) : Steps p.tables e below (T.setTop (mkF m pc Ls (.int x :: S))) t := XS.istore (g := mkF m pc Ls (.int x :: S)) h hx rfl hd rfl hl q
theorem pw_istoreN {k : Fin 4} {x : Int32} (h : At T m c below) (hx : p.tables.exec = Jvm.exec) (hd : decode c.code pc = .ok (.istore_n k, 1)) (hl : storeLocals Ls k.val (.int x) = some l') (t : State) (q : Steps p.tables e below (T.setTop (mkF m (pc + 1) l' (S))) t) : Steps p.tables e below (T.setTop (mkF m pc Ls (.int x :: S))) t := XS.istoreN (g := mkF m pc Ls (.int x :: S)) h hx rfl hd rfl hl q
theorem pw_astore {k : Nat} {x : Value} (h : At T m c below) (hx : p.tables.exec = Jvm.exec) (hd : decode c.code pc = .ok (.astore k, 2)) (hv : x.isRef = true) (hl : storeLocals Ls k x = some l') (t : State) (q : Steps p.tables e below (T.setTop (mkF m (pc + 2) l' (S))) t) : Steps p.tables e below (T.setTop (mkF m pc Ls (x :: S))) t := XS.astore (g := mkF m pc Ls (x :: S)) h hx rfl hd rfl hv hl q
theorem pw_astoreN {k : Fin 4} {x : Value} (h : At T m c below) (hx : p.tables.exec = Jvm.exec) (hd : decode c.code pc = .ok (.astore_n k, 1)) (hv : x.isRef = true) (hl : storeLocals Ls k.val x = some l') (t : State) (q : Steps p.tables e below (T.setTop (mkF m (pc + 1) l' (S))) t) : Steps p.tables e below (T.setTop (mkF m pc Ls (x :: S))) t := XS.astoreN (g := mkF m pc Ls (x :: S)) h hx rfl hd rfl hv hl q
theorem pw_iconst {i : Int} {v : Int32} (h : At T m c below) (hx : p.tables.exec = Jvm.exec) (hd : decode c.code pc = .ok (.iconst i, 1)) (hv : Int32.ofInt i = v) (t : State) (q : Steps p.tables e below (T.setTop (mkF m (pc + 1) Ls (.int v :: S))) t) : Steps p.tables e below (T.setTop (mkF m pc Ls (S))) t := by
  subst hv
  exact XS.iconst (g := mkF m pc Ls (S)) h hx rfl hd q
theorem pw_bipush {i : Int} {v : Int32} (h : At T m c below) (hx : p.tables.exec = Jvm.exec) (hd : decode c.code pc = .ok (.bipush i, 2)) (hv : (Int8.ofInt i).toInt32 = v) (t : State) (q : Steps p.tables e below (T.setTop (mkF m (pc + 2) Ls (.int v :: S))) t) : Steps p.tables e below (T.setTop (mkF m pc Ls (S))) t := by
  subst hv
  exact XS.bipush (g := mkF m pc Ls (S)) h hx rfl hd q
theorem pw_sipush {i : Int} {v : Int32} (h : At T m c below) (hx : p.tables.exec = Jvm.exec) (hd : decode c.code pc = .ok (.sipush i, 3)) (hv : (Int16.ofInt i).toInt32 = v) (t : State) (q : Steps p.tables e below (T.setTop (mkF m (pc + 3) Ls (.int v :: S))) t) : Steps p.tables e below (T.setTop (mkF m pc Ls (S))) t := by
  subst hv
  exact XS.sipush (g := mkF m pc Ls (S)) h hx rfl hd q
theorem pw_aconstNull  (h : At T m c below) (hx : p.tables.exec = Jvm.exec) (hd : decode c.code pc = .ok (.aconst_null, 1)) (t : State) (q : Steps p.tables e below (T.setTop (mkF m (pc + 1) Ls (.null :: S))) t) : Steps p.tables e below (T.setTop (mkF m pc Ls (S))) t := XS.aconstNull (g := mkF m pc Ls (S)) h hx rfl hd q
theorem pw_iadd {x y : Int32} (h : At T m c below) (hx : p.tables.exec = Jvm.exec) (hd : decode c.code pc = .ok (.iadd, 1)) (t : State) (q : Steps p.tables e below (T.setTop (mkF m (pc + 1) Ls (.int (x + y) :: S))) t) : Steps p.tables e below (T.setTop (mkF m pc Ls (.int y :: .int x :: S))) t := XS.iadd (g := mkF m pc Ls (.int y :: .int x :: S)) h hx rfl hd rfl q
theorem pw_isub {x y : Int32} (h : At T m c below) (hx : p.tables.exec = Jvm.exec) (hd : decode c.code pc = .ok (.isub, 1)) (t : State) (q : Steps p.tables e below (T.setTop (mkF m (pc + 1) Ls (.int (x - y) :: S))) t) : Steps p.tables e below (T.setTop (mkF m pc Ls (.int y :: .int x :: S))) t := XS.isub (g := mkF m pc Ls (.int y :: .int x :: S)) h hx rfl hd rfl q
theorem pw_iand {x y : Int32} (h : At T m c below) (hx : p.tables.exec = Jvm.exec) (hd : decode c.code pc = .ok (.iand, 1)) (t : State) (q : Steps p.tables e below (T.setTop (mkF m (pc + 1) Ls (.int (x &&& y) :: S))) t) : Steps p.tables e below (T.setTop (mkF m pc Ls (.int y :: .int x :: S))) t := XS.iand (g := mkF m pc Ls (.int y :: .int x :: S)) h hx rfl hd rfl q
theorem pw_dup {x : Value} (h : At T m c below) (hx : p.tables.exec = Jvm.exec) (hd : decode c.code pc = .ok (.dup, 1)) (hc : x.category = 1) (t : State) (q : Steps p.tables e below (T.setTop (mkF m (pc + 1) Ls (x :: x :: S))) t) : Steps p.tables e below (T.setTop (mkF m pc Ls (x :: S))) t := XS.dup (g := mkF m pc Ls (x :: S)) h hx rfl hd rfl hc q
theorem pw_pop {x : Value} (h : At T m c below) (hx : p.tables.exec = Jvm.exec) (hd : decode c.code pc = .ok (.pop, 1)) (hc : x.category = 1) (t : State) (q : Steps p.tables e below (T.setTop (mkF m (pc + 1) Ls (S))) t) : Steps p.tables e below (T.setTop (mkF m pc Ls (x :: S))) t := XS.pop (g := mkF m pc Ls (x :: S)) h hx rfl hd rfl hc q
theorem pw_iinc {k : Nat} {cst : Int} {x : Int32} (h : At T m c below) (hx : p.tables.exec = Jvm.exec) (hd : decode c.code pc = .ok (.iinc k cst, 3)) (hl : Ls[k]? = some (.val (.int x))) (hl' : storeLocals Ls k (.int (x + Int32.ofInt cst)) = some l') (t : State) (q : Steps p.tables e below (T.setTop (mkF m (pc + 3) l' (S))) t) : Steps p.tables e below (T.setTop (mkF m pc Ls (S))) t := XS.iinc (g := mkF m pc Ls (S)) h hx rfl hd hl hl' q
theorem pw_goto {o : Int} (h : At T m c below) (hx : p.tables.exec = Jvm.exec) (hd : decode c.code pc = .ok (.goto o, 3)) (ho : 0 ≤ (pc : Int) + o) (hp : ((pc : Int) + o).toNat = pc') (t : State) (q : Steps p.tables e below (T.setTop (mkF m pc' Ls (S))) t) : Steps p.tables e below (T.setTop (mkF m pc Ls (S))) t := XS.goto (g := mkF m pc Ls (S)) h hx rfl (pc0 := pc) (pc' := pc') rfl hd ho hp q
theorem pw_ifYes {cd : ClassFile.Cond} {x : Int32} {o : Int} (h : At T m c below) (hx : p.tables.exec = Jvm.exec) (hd : decode c.code pc = .ok (.ifCond cd o, 3)) (hc : ifCond.holds cd x = true) (ho : 0 ≤ (pc : Int) + o) (hp : ((pc : Int) + o).toNat = pc') (t : State) (q : Steps p.tables e below (T.setTop (mkF m pc' Ls (S))) t) : Steps p.tables e below (T.setTop (mkF m pc Ls (.int x :: S))) t := XS.ifYes (g := mkF m pc Ls (.int x :: S)) h hx rfl (pc0 := pc) (pc' := pc') rfl hd rfl hc ho hp q
theorem pw_ifNo {cd : ClassFile.Cond} {x : Int32} {o : Int} (h : At T m c below) (hx : p.tables.exec = Jvm.exec) (hd : decode c.code pc = .ok (.ifCond cd o, 3)) (hc : ifCond.holds cd x = false) (t : State) (q : Steps p.tables e below (T.setTop (mkF m (pc + 3) Ls (S))) t) : Steps p.tables e below (T.setTop (mkF m pc Ls (.int x :: S))) t := XS.ifNo (g := mkF m pc Ls (.int x :: S)) h hx rfl hd rfl hc q
theorem pw_icmpYes {cd : ClassFile.Cond} {x y : Int32} {o : Int} (h : At T m c below) (hx : p.tables.exec = Jvm.exec) (hd : decode c.code pc = .ok (.if_icmp cd o, 3)) (hc : if_icmp.holds cd x y = true) (ho : 0 ≤ (pc : Int) + o) (hp : ((pc : Int) + o).toNat = pc') (t : State) (q : Steps p.tables e below (T.setTop (mkF m pc' Ls (S))) t) : Steps p.tables e below (T.setTop (mkF m pc Ls (.int y :: .int x :: S))) t := XS.icmpYes (g := mkF m pc Ls (.int y :: .int x :: S)) h hx rfl (pc0 := pc) (pc' := pc') rfl hd rfl hc ho hp q
theorem pw_icmpNo {cd : ClassFile.Cond} {x y : Int32} {o : Int} (h : At T m c below) (hx : p.tables.exec = Jvm.exec) (hd : decode c.code pc = .ok (.if_icmp cd o, 3)) (hc : if_icmp.holds cd x y = false) (t : State) (q : Steps p.tables e below (T.setTop (mkF m (pc + 3) Ls (S))) t) : Steps p.tables e below (T.setTop (mkF m pc Ls (.int y :: .int x :: S))) t := XS.icmpNo (g := mkF m pc Ls (.int y :: .int x :: S)) h hx rfl hd rfl hc q
end OwnP
end Jvm.RoadKit
namespace Jvm.Pilot.@@N@@
open Jvm Jvm.ClassFile Sem Op Lib Jvm.Free Jvm.Stand Jvm.LawKit Jvm.RoadKit Bundle Jvm.Pilot.@@N@@.Jvm.D
def own_EL : List (String × Nat) := [("java/lang/String", 7), ("java/lang/StringLatin1", 151)]
theorem own_EW {Z : State} {a0 : Array Value} (hw : ∀ d ∈ tables_1, d.before a0 Z = true) : EW Z a0 own_EL := (EW.cons (hw _ (List.mem_of_getElem? (i := 141) rfl)) (by decide) (EW.cons (hw _ (List.mem_of_getElem? (i := 138) rfl)) (by decide) (fun p hp => nomatch hp)))
theorem own_eqI {args : Array Value} {first s : State} {o : Option Outcome} {idx : List Nat} {t : Term} {v : Int32} (h : (Jvm.Cond.eq t (.int v)).value args first o s idx = some true) : t.eval args first o idx s = some (.int v) := by
  obtain ⟨x, y, hx, hy, k1, k2⟩ := cmp_v (Or.inl h)
  rw [Term.int_eval] at hy
  obtain rfl := Option.some.inj hy
  obtain ⟨z, rfl⟩ := k2
  have q : z = v := by simpa [Jvm.Cond.value, hx, Term.int_eval] using h
  rw [hx, q]
theorem own_eqR {args : Array Value} {first s : State} {o : Option Outcome} {idx : List Nat} {t u : Term} {a : Addr} (hu : u.eval args first o idx s = some (.ref a)) (h : (Jvm.Cond.eq t u).value args first o s idx = some true) : t.eval args first o idx s = some (.ref a) := by
  obtain ⟨x, y, hx, hy, k1, k2⟩ := cmp_v (Or.inl h)
  obtain rfl := Option.some.inj (hu.symm.trans hy)
  obtain ⟨-, q⟩ := k2
  have q2 := gotT (eq_R hx hu q rfl) h
  rw [hx, q2]
theorem own_len {args : Array Value} {s : State} {t : Term} {n : Int32} {a : Addr} {cl : Cell} {ty : FieldType} (A : Arr s s.heap a cl ty) (ev : t.eval args s none [] s = some (.ref a)) (h : (Jvm.Cond.eq (.length t) (.int n)).value args s none s [] = some true) : cl.slots.size < 2 ^ 31 ∧ cl.slots.size.toInt32 = n := by
  have q := own_eqI h
  have f := A.fin (Vm.Alike.refl _)
  by_cases hl : cl.slots.size < 2 ^ 31
  · rw [len_f ev f hl] at q
    exact ⟨hl, Value.int.inj (Option.some.inj q)⟩
  · simp [Term.eval, ev, f, hl] at q
theorem own_el {args : Array Value} {s : State} {t : Term} {j v : Int32} {a : Addr} {cl : Cell} {ty : FieldType} (A : Arr s s.heap a cl ty) (ev : t.eval args s none [] s = some (.ref a)) (h : (Jvm.Cond.eq (.elem t (.int j)) (.int v)).value args s none s [] = some true) : cl.slots[j.toNatClampNeg]? = some (.int v) := (elem_in (own_eqI h) ev (Term.int_eval j) A.1).2
theorem own_elR {args : Array Value} {s : State} {t u : Term} {j : Int32} {a b : Addr} {cl : Cell} {ty : FieldType} (A : Arr s s.heap a cl ty) (ev : t.eval args s none [] s = some (.ref a)) (hu : u.eval args s none [] s = some (.ref b)) (h : (Jvm.Cond.eq (.elem t (.int j)) u).value args s none s [] = some true) : cl.slots[j.toNatClampNeg]? = some (.ref b) := (elem_in (own_eqR hu h) ev (Term.int_eval j) A.1).2
theorem own_refc {v : Value} (h : v.isRef = true) : v = .null ∨ ∃ r, v = .ref r := by cases v <;> simp_all [Value.isRef]
theorem own_isRef {args : Array Value} {first s : State} {o : Option Outcome} {idx : List Nat} {t : Term} (h : (Jvm.Cond.isRef t).value args first o s idx = some true) : ∃ v, t.eval args first o idx s = some v ∧ v.isRef = true := by
  cases q : t.eval args first o idx s with
  | none => simp [Jvm.Cond.value, q] at h
  | some v => cases v <;> simp_all [Jvm.Cond.value, Value.isRef]
def OwnSt (Z : State) (cs : Int32) (fm : Value) : Prop := Sta Z Z.heap "java/lang/String" "COMPACT_STRINGS" "Z" (.int cs) ∧ ¬ cs = (0 : Int32) ∧ Sta Z Z.heap "jdk/internal/util/Preconditions" "SIOOBE_FORMATTER" "Ljava/util/function/BiFunction;" fm ∧ fm.isRef = true
def own_ok (c : Int32) : Prop := 0 ≤ c.toInt ∧ c.toInt ≤ 255
theorem own_lt0 {a b : Int32} (h : a < b) : a.toInt < b.toInt := Int32.lt_iff_toInt_lt.mp h
theorem own_lt {a b : Int32} (h : a.toInt < b.toInt) : a < b := Int32.lt_iff_toInt_lt.mpr h
theorem own_nlt {a b : Int32} (h : b.toInt ≤ a.toInt) : ¬ a < b := fun q => by have := Int32.lt_iff_toInt_lt.mp q; omega
theorem own_nlt' {a b : Int32} (h : ¬ a < b) : b.toInt ≤ a.toInt := by rw [Int32.lt_iff_toInt_lt] at h; omega
theorem own_nat {j : Int32} (h : 0 ≤ j.toInt) : (j.toNatClampNeg : Int) = j.toInt := by
  have q : j.toNatClampNeg = j.toInt.toNat := rfl
  rw [q]
  omega
theorem own_i0 : (0 : Int32).toInt = 0 := by decide
theorem own_i255 : (255 : Int32).toInt = 255 := by decide
theorem own_nr {r : Int32} (h : own_ok r) : nar .char r = r := by
  obtain ⟨h0, h1⟩ := h
  have a := c_i2c r
  exact Int32.toInt_inj.mp (by show r.toUInt32.toUInt16.toUInt32.toInt32.toInt = r.toInt; omega)
theorem own_le {r : Int32} (h : own_ok r) : ¬ (255 : Int32) < r := own_nlt (by rw [own_i255]; exact h.2)
theorem own_okn {z : Int32} (h0 : 0 ≤ z.toInt) (h1 : z.toInt ≤ 255) : own_ok (nar .char z) := by
  rw [own_nr ⟨h0, h1⟩]
  exact ⟨h0, h1⟩
theorem own_okm (x : Int32) : own_ok (nar .char ((x &&& (255 : Int32)).toUInt32.toUInt16.toUInt32.toInt32)) := by
  have a := c_mask x 255 8 (by decide) (by decide)
  rw [i2c_mask]
  exact own_okn (by omega) (by omega)
theorem own_okc31 (x : Int32) : own_ok (nar .char ((x &&& (31 : Int32)).toUInt32.toUInt16.toUInt32.toInt32)) := by
  have a := c_mask x 31 5 (by decide) (by decide)
  have e : (x &&& (31 : Int32)).toUInt32.toUInt16.toUInt32.toInt32 = x &&& (31 : Int32) := own_nr ⟨by omega, by omega⟩
  rw [e]
  exact own_okn (by omega) (by omega)
def own_b (c : Int32) : Int32 := nar .byte (c.toInt8.toInt32)
def own_c (y : Int32) : Int32 := (y &&& (255 : Int32)).toUInt32.toUInt16.toUInt32.toInt32
theorem own_bi (c : Int32) : ((own_b c).toInt - c.toInt) % 256 = 0 ∧ -128 ≤ (own_b c).toInt ∧ (own_b c).toInt < 128 := by
  have a := c_i2b c
  have b := c_i2b (c.toInt8.toInt32)
  have e : own_b c = (c.toInt8.toInt32).toInt8.toInt32 := rfl
  rw [e]
  omega
theorem own_bc {c : Int32} (h : own_ok c) : own_c (own_b c) = c := by
  obtain ⟨h0, h1⟩ := h
  have a := own_bi c
  have b := c_mask (own_b c) 255 8 (by decide) (by decide)
  unfold own_c
  rw [i2c_mask]
  exact Int32.toInt_inj.mp (by omega)
theorem own_beq {c k : Int32} (h : own_ok c) (k0 : 0 ≤ k.toInt) (k1 : k.toInt < 128) : own_b c = k ↔ c = k := by
  obtain ⟨h0, h1⟩ := h
  have a := own_bi c
  rw [← Int32.toInt_inj, ← Int32.toInt_inj (x := c)]
  omega
theorem own_sh0 (z : Int32) : some (Value.int (z >>> ((0 : Int32) &&& 31))) = some (Value.int z) := by
  have e : z >>> ((0 : Int32) &&& 31) = z := by
    rw [show ((0 : Int32) &&& 31) = 0 from by decide]
    exact Int32.toInt_inj.mp (by simp)
  rw [e]
theorem own_ncS (y : Int32) : some (Value.int (nar .char ((y &&& (255 : Int32)).toUInt32.toUInt16.toUInt32.toInt32))) = some (Value.int (own_c y)) := by
  have a := c_mask y 255 8 (by decide) (by decide)
  unfold own_c
  rw [i2c_mask, own_nr ⟨by omega, by omega⟩]
theorem own_nc2 (y : Int32) : some (Value.int (nar .char (own_c y))) = some (Value.int (own_c y)) := by
  have a := c_mask y 255 8 (by decide) (by decide)
  unfold own_c
  rw [i2c_mask, own_nr ⟨by omega, by omega⟩]
theorem own_getD (xs : List Int32) (j : Nat) : (xs.map Value.int).getD j (.int 0) = .int (xs.getD j 0) := by
  simp only [List.getD, List.getElem?_map]
  cases xs[j]? <;> rfl
def own_sub (xs : List Int32) (b m : Int32) : List Int32 := (List.range m.toNatClampNeg).map fun i => xs.getD (b.toNatClampNeg + i) 0
theorem own_subg (xs : List Int32) (b m : Int32) (i : Nat) (h : i < m.toNatClampNeg) : (own_sub xs b m).getD i 0 = xs.getD (b.toNatClampNeg + i) 0 := by
  simp [own_sub, List.getD, h]
theorem own_sub0 (xs : List Int32) (b : Int32) : (own_sub xs b (0 : Int32)).map Value.int = [] := by
  have e : (0 : Int32).toNatClampNeg = 0 := by decide
  simp [own_sub, e]
theorem own_suba (xs : List Int32) (z : Int32) (h : z.toNatClampNeg = xs.length) : own_sub xs (0 : Int32) z = xs := by
  have e : (0 : Int32).toNatClampNeg = 0 := by decide
  unfold own_sub
  rw [e, h]
  apply List.ext_getElem
  · simp
  · intro i h1 h2
    simp [List.getD, h2]
theorem own_cp (xs : List Int32) (b m : Int32) (d : Value) : (List.replicate m.toNatClampNeg d).take (0 : Int32).toNatClampNeg ++ ((List.range m.toNatClampNeg).map fun i => (xs.map Value.int).getD (b.toNatClampNeg + i) (.int 0)) ++ (List.replicate m.toNatClampNeg d).drop ((0 : Int32).toNatClampNeg + m.toNatClampNeg) = (own_sub xs b m).map Value.int := by
  have e : (0 : Int32).toNatClampNeg = 0 := by decide
  rw [e]
  simp only [List.take_zero, List.nil_append, Nat.zero_add, own_sub, List.map_map]
  rw [List.drop_eq_nil_of_le (by simp), List.append_nil]
  apply List.map_congr_left
  intro i _
  exact own_getD xs _
def own_min (a b : Int32) : Int32 := if b < a then b else a
theorem own_mnq {a b : Int32} (h : b.toInt ≤ a.toInt) : own_min a b = b := by
  unfold own_min
  by_cases q : b < a
  · exact if_pos q
  · rw [if_neg q]
    have := own_nlt' q
    exact Int32.toInt_inj.mp (by omega)
theorem own_dif {m e b : Int32} (h : m = e - b) (h0 : 0 ≤ b.toInt) (h1 : b.toInt ≤ e.toInt) : m.toInt = e.toInt - b.toInt := by
  have a := c_isub e b
  have r := rng32 m
  have r2 := rng32 e
  rw [← h] at a
  omega
theorem own_sm {m e b : Int32} (h : e = b + m) (h0 : 0 ≤ b.toInt) (h1 : 0 ≤ m.toInt) (h2 : b.toInt + m.toInt ≤ 5) : e.toInt = b.toInt + m.toInt := by
  have a := c_iadd b m
  have r := rng32 e
  rw [← h] at a
  omega
theorem own_sd {m q e b : Int32} (h : e = b + m) (h' : q = e - b) (h0 : 0 ≤ b.toInt) (h1 : 0 ≤ m.toInt) (h2 : b.toInt + m.toInt ≤ 5) : q = m := by
  have e1 := own_sm h h0 h1 h2
  have e2 := own_dif h' h0 (by omega)
  exact Int32.toInt_inj.mp (by omega)
theorem own_bb {b k : Int32} {n : Int} (h : b = k + 1) (hk : -1 ≤ k.toInt ∧ k.toInt < n) (hn : n ≤ 5) : 0 ≤ b.toInt ∧ b.toInt ≤ n := by
  have a := c_iadd k 1
  have e1 : (1 : Int32).toInt = 1 := by decide
  have r := rng32 b
  rw [← h] at a
  omega
theorem own_ne0 {b : Int32} (h : 0 < b.toInt) : ¬ b = (0 : Int32) := fun q => by
  rw [q, own_i0] at h
  omega
theorem own_eq0' {m : Int32} (h : m.toInt = 0) : m = (0 : Int32) := Int32.toInt_inj.mp (by rw [h, own_i0])
theorem own_pos {m : Int32} (h : 0 ≤ m.toInt) (q : ¬ m = (0 : Int32)) : 0 < m.toInt := by
  rcases Int.lt_or_eq_of_le h with h | h
  · exact h
  · exact absurd (own_eq0' h.symm) q
def own_sep (c : Int32) : Int32 := if c = (47 : Int32) then 1 else if c = (92 : Int32) then 1 else 0
def own_max (a b : Int32) : Int32 := if a < b then b else a
theorem own_maxl {a b : Int32} (h : b.toInt ≤ a.toInt) : own_max a b = a := if_neg (own_nlt h)
theorem own_maxr {a b : Int32} (h : a.toInt ≤ b.toInt) : own_max a b = b := by
  unfold own_max
  by_cases q : a < b
  · exact if_pos q
  · rw [if_neg q]
    have := own_nlt' q
    exact Int32.toInt_inj.mp (by omega)
theorem own_sep1 {c : Int32} (h : c = 47 ∨ c = 92) : ¬ own_sep c = (0 : Int32) := by
  rcases h with rfl | rfl <;> decide
theorem own_sep0 {c : Int32} (h1 : ¬ c = 47) (h2 : ¬ c = 92) : own_sep c = (0 : Int32) := by
  unfold own_sep
  rw [if_neg h1, if_neg h2]
def own_li0 (k : Int32) : Int32 := (-1 : Int32)
def own_k0 : Int32 := (-1 : Int32)
theorem own_lib0 (k : Int32) : -1 ≤ (own_li0 k).toInt ∧ (own_li0 k).toInt < 0 := by unfold own_li0; decide
theorem own_eq0 : own_max (own_li0 47) (own_li0 92) = own_k0 := by decide
def own_li1 (k x0 : Int32) : Int32 := if x0 = k.toInt8.toInt32 then (0 : Int32) else own_li0 k 
def own_k1 (c0 : Int32) : Int32 := if own_sep c0 = (0 : Int32) then own_k0  else (0 : Int32)
theorem own_lib1 (k x0 : Int32) : -1 ≤ (own_li1 k x0).toInt ∧ (own_li1 k x0).toInt < 1 := by
  have q := own_lib0 k 
  unfold own_li1
  split
  · decide
  · omega
theorem own_eq1 {c0 : Int32} (hk0 : own_ok c0) : own_max (own_li1 47 (own_b c0)) (own_li1 92 (own_b c0)) = own_k1 c0 := by
  have ih := own_eq0 
  have b1 := own_lib0 47 
  have b2 := own_lib0 92 
  have e1 := own_beq hk0 (k := (47 : Int32)) (by decide) (by decide)
  have e2 := own_beq hk0 (k := (92 : Int32)) (by decide) (by decide)
  have en : (0 : Int32).toInt = 0 := by decide
  rw [own_li1, own_li1, own_k1, show (47 : Int32).toInt8.toInt32 = 47 from by decide, show (92 : Int32).toInt8.toInt32 = 92 from by decide]
  by_cases h1 : c0 = 47
  · rw [if_pos (e1.mpr h1), if_neg (fun q => absurd (e2.mp q) (by rw [h1]; decide)), if_neg (own_sep1 (Or.inl h1)), own_maxl (by omega)]
  · by_cases h2 : c0 = 92
    · rw [if_neg (fun q => h1 (e1.mp q)), if_pos (e2.mpr h2), if_neg (own_sep1 (Or.inr h2)), own_maxr (by omega)]
    · rw [if_neg (fun q => h1 (e1.mp q)), if_neg (fun q => h2 (e2.mp q)), if_pos (own_sep0 h1 h2)]
      exact ih
def own_li2 (k x0 x1 : Int32) : Int32 := if x1 = k.toInt8.toInt32 then (1 : Int32) else own_li1 k x0
def own_k2 (c0 c1 : Int32) : Int32 := if own_sep c1 = (0 : Int32) then own_k1 c0 else (1 : Int32)
theorem own_lib2 (k x0 x1 : Int32) : -1 ≤ (own_li2 k x0 x1).toInt ∧ (own_li2 k x0 x1).toInt < 2 := by
  have q := own_lib1 k x0
  unfold own_li2
  split
  · decide
  · omega
theorem own_eq2 {c0 c1 : Int32} (hk0 : own_ok c0) (hk1 : own_ok c1) : own_max (own_li2 47 (own_b c0) (own_b c1)) (own_li2 92 (own_b c0) (own_b c1)) = own_k2 c0 c1 := by
  have ih := own_eq1 hk0
  have b1 := own_lib1 47 (own_b c0)
  have b2 := own_lib1 92 (own_b c0)
  have e1 := own_beq hk1 (k := (47 : Int32)) (by decide) (by decide)
  have e2 := own_beq hk1 (k := (92 : Int32)) (by decide) (by decide)
  have en : (1 : Int32).toInt = 1 := by decide
  rw [own_li2, own_li2, own_k2, show (47 : Int32).toInt8.toInt32 = 47 from by decide, show (92 : Int32).toInt8.toInt32 = 92 from by decide]
  by_cases h1 : c1 = 47
  · rw [if_pos (e1.mpr h1), if_neg (fun q => absurd (e2.mp q) (by rw [h1]; decide)), if_neg (own_sep1 (Or.inl h1)), own_maxl (by omega)]
  · by_cases h2 : c1 = 92
    · rw [if_neg (fun q => h1 (e1.mp q)), if_pos (e2.mpr h2), if_neg (own_sep1 (Or.inr h2)), own_maxr (by omega)]
    · rw [if_neg (fun q => h1 (e1.mp q)), if_neg (fun q => h2 (e2.mp q)), if_pos (own_sep0 h1 h2)]
      exact ih
def own_li3 (k x0 x1 x2 : Int32) : Int32 := if x2 = k.toInt8.toInt32 then (2 : Int32) else own_li2 k x0 x1
def own_k3 (c0 c1 c2 : Int32) : Int32 := if own_sep c2 = (0 : Int32) then own_k2 c0 c1 else (2 : Int32)
theorem own_lib3 (k x0 x1 x2 : Int32) : -1 ≤ (own_li3 k x0 x1 x2).toInt ∧ (own_li3 k x0 x1 x2).toInt < 3 := by
  have q := own_lib2 k x0 x1
  unfold own_li3
  split
  · decide
  · omega
theorem own_eq3 {c0 c1 c2 : Int32} (hk0 : own_ok c0) (hk1 : own_ok c1) (hk2 : own_ok c2) : own_max (own_li3 47 (own_b c0) (own_b c1) (own_b c2)) (own_li3 92 (own_b c0) (own_b c1) (own_b c2)) = own_k3 c0 c1 c2 := by
  have ih := own_eq2 hk0 hk1
  have b1 := own_lib2 47 (own_b c0) (own_b c1)
  have b2 := own_lib2 92 (own_b c0) (own_b c1)
  have e1 := own_beq hk2 (k := (47 : Int32)) (by decide) (by decide)
  have e2 := own_beq hk2 (k := (92 : Int32)) (by decide) (by decide)
  have en : (2 : Int32).toInt = 2 := by decide
  rw [own_li3, own_li3, own_k3, show (47 : Int32).toInt8.toInt32 = 47 from by decide, show (92 : Int32).toInt8.toInt32 = 92 from by decide]
  by_cases h1 : c2 = 47
  · rw [if_pos (e1.mpr h1), if_neg (fun q => absurd (e2.mp q) (by rw [h1]; decide)), if_neg (own_sep1 (Or.inl h1)), own_maxl (by omega)]
  · by_cases h2 : c2 = 92
    · rw [if_neg (fun q => h1 (e1.mp q)), if_pos (e2.mpr h2), if_neg (own_sep1 (Or.inr h2)), own_maxr (by omega)]
    · rw [if_neg (fun q => h1 (e1.mp q)), if_neg (fun q => h2 (e2.mp q)), if_pos (own_sep0 h1 h2)]
      exact ih
def own_li4 (k x0 x1 x2 x3 : Int32) : Int32 := if x3 = k.toInt8.toInt32 then (3 : Int32) else own_li3 k x0 x1 x2
def own_k4 (c0 c1 c2 c3 : Int32) : Int32 := if own_sep c3 = (0 : Int32) then own_k3 c0 c1 c2 else (3 : Int32)
theorem own_lib4 (k x0 x1 x2 x3 : Int32) : -1 ≤ (own_li4 k x0 x1 x2 x3).toInt ∧ (own_li4 k x0 x1 x2 x3).toInt < 4 := by
  have q := own_lib3 k x0 x1 x2
  unfold own_li4
  split
  · decide
  · omega
theorem own_eq4 {c0 c1 c2 c3 : Int32} (hk0 : own_ok c0) (hk1 : own_ok c1) (hk2 : own_ok c2) (hk3 : own_ok c3) : own_max (own_li4 47 (own_b c0) (own_b c1) (own_b c2) (own_b c3)) (own_li4 92 (own_b c0) (own_b c1) (own_b c2) (own_b c3)) = own_k4 c0 c1 c2 c3 := by
  have ih := own_eq3 hk0 hk1 hk2
  have b1 := own_lib3 47 (own_b c0) (own_b c1) (own_b c2)
  have b2 := own_lib3 92 (own_b c0) (own_b c1) (own_b c2)
  have e1 := own_beq hk3 (k := (47 : Int32)) (by decide) (by decide)
  have e2 := own_beq hk3 (k := (92 : Int32)) (by decide) (by decide)
  have en : (3 : Int32).toInt = 3 := by decide
  rw [own_li4, own_li4, own_k4, show (47 : Int32).toInt8.toInt32 = 47 from by decide, show (92 : Int32).toInt8.toInt32 = 92 from by decide]
  by_cases h1 : c3 = 47
  · rw [if_pos (e1.mpr h1), if_neg (fun q => absurd (e2.mp q) (by rw [h1]; decide)), if_neg (own_sep1 (Or.inl h1)), own_maxl (by omega)]
  · by_cases h2 : c3 = 92
    · rw [if_neg (fun q => h1 (e1.mp q)), if_pos (e2.mpr h2), if_neg (own_sep1 (Or.inr h2)), own_maxr (by omega)]
    · rw [if_neg (fun q => h1 (e1.mp q)), if_neg (fun q => h2 (e2.mp q)), if_pos (own_sep0 h1 h2)]
      exact ih
def own_li5 (k x0 x1 x2 x3 x4 : Int32) : Int32 := if x4 = k.toInt8.toInt32 then (4 : Int32) else own_li4 k x0 x1 x2 x3
def own_k5 (c0 c1 c2 c3 c4 : Int32) : Int32 := if own_sep c4 = (0 : Int32) then own_k4 c0 c1 c2 c3 else (4 : Int32)
theorem own_lib5 (k x0 x1 x2 x3 x4 : Int32) : -1 ≤ (own_li5 k x0 x1 x2 x3 x4).toInt ∧ (own_li5 k x0 x1 x2 x3 x4).toInt < 5 := by
  have q := own_lib4 k x0 x1 x2 x3
  unfold own_li5
  split
  · decide
  · omega
theorem own_eq5 {c0 c1 c2 c3 c4 : Int32} (hk0 : own_ok c0) (hk1 : own_ok c1) (hk2 : own_ok c2) (hk3 : own_ok c3) (hk4 : own_ok c4) : own_max (own_li5 47 (own_b c0) (own_b c1) (own_b c2) (own_b c3) (own_b c4)) (own_li5 92 (own_b c0) (own_b c1) (own_b c2) (own_b c3) (own_b c4)) = own_k5 c0 c1 c2 c3 c4 := by
  have ih := own_eq4 hk0 hk1 hk2 hk3
  have b1 := own_lib4 47 (own_b c0) (own_b c1) (own_b c2) (own_b c3)
  have b2 := own_lib4 92 (own_b c0) (own_b c1) (own_b c2) (own_b c3)
  have e1 := own_beq hk4 (k := (47 : Int32)) (by decide) (by decide)
  have e2 := own_beq hk4 (k := (92 : Int32)) (by decide) (by decide)
  have en : (4 : Int32).toInt = 4 := by decide
  rw [own_li5, own_li5, own_k5, show (47 : Int32).toInt8.toInt32 = 47 from by decide, show (92 : Int32).toInt8.toInt32 = 92 from by decide]
  by_cases h1 : c4 = 47
  · rw [if_pos (e1.mpr h1), if_neg (fun q => absurd (e2.mp q) (by rw [h1]; decide)), if_neg (own_sep1 (Or.inl h1)), own_maxl (by omega)]
  · by_cases h2 : c4 = 92
    · rw [if_neg (fun q => h1 (e1.mp q)), if_pos (e2.mpr h2), if_neg (own_sep1 (Or.inr h2)), own_maxr (by omega)]
    · rw [if_neg (fun q => h1 (e1.mp q)), if_neg (fun q => h2 (e2.mp q)), if_pos (own_sep0 h1 h2)]
      exact ih
theorem own_mb0 ( p q : Int32) : -1 ≤ (own_max (own_li0 p  ) (own_li0 q  )).toInt ∧ (own_max (own_li0 p  ) (own_li0 q  )).toInt < 0 := by
  have b1 := own_lib0 p  
  have b2 := own_lib0 q  
  unfold own_max
  split <;> omega
theorem own_get0 {c0 c1 c2 c3 c4 : Int32}  (j : Nat) (hj : j < 0) : own_c (([] : List Int32).getD j 0) = ([c0, c1, c2, c3, c4] : List Int32).getD j 0 := by
  omega
theorem own_hat0 {c0 c1 c2 c3 c4 k mm bb i : Int32}  (hk : -1 ≤ k.toInt ∧ k.toInt < 0) (hbb : bb = k + 1) (hmm : mm = (0 : Int32) - bb) (h0 : 0 ≤ i.toInt) (h4 : i.toInt ≤ 4) :
    i < ((0 : Int32) - k) - 1 → ¬ i < 0 ∧ i < mm ∧ ¬ (k + 1) + i < 0 ∧ (k + 1) + i < (5 : Int32) ∧ own_c ((own_sub [] bb mm).getD i.toNatClampNeg 0) = ([c0, c1, c2, c3, c4] : List Int32).getD ((k + 1) + i).toNatClampNeg 0 := by
  intro hlt
  have e1 : (1 : Int32).toInt = 1 := by decide
  have e5 : (5 : Int32).toInt = 5 := by decide
  have e0 : (0 : Int32).toInt = 0 := by decide
  have en : (0 : Int32).toInt = 0 := by decide
  have a1 := c_iadd k 1
  have a2 := c_iadd (k + 1) i
  have a3 := c_isub (0 : Int32) bb
  have a4 := c_isub (0 : Int32) k
  have a5 := c_isub ((0 : Int32) - k) 1
  have r1 := rng32 (k + 1)
  have r2 := rng32 ((k + 1) + i)
  have r3 := rng32 mm
  have r4 := rng32 ((0 : Int32) - k)
  have r5 := rng32 (((0 : Int32) - k) - 1)
  rw [← hmm] at a3
  rw [hbb] at a3
  have l := own_lt0 hlt
  have t1 : (k + 1).toInt = k.toInt + 1 := by omega
  have t2 : ((k + 1) + i).toInt = k.toInt + 1 + i.toInt := by omega
  have t3 : mm.toInt = 0 - (k.toInt + 1) := by omega
  have t4 : ((0 : Int32) - k).toInt = 0 - k.toInt := by omega
  have t5 : (((0 : Int32) - k) - 1).toInt = 0 - k.toInt - 1 := by omega
  clear a1 a2 a3 a4 a5 r1 r2 r3 r4 r5
  have n1 := own_nat (j := i) h0
  have n2 := own_nat (j := mm) (by omega)
  have n3 := own_nat (j := bb) (by rw [hbb]; omega)
  have n4 := own_nat (j := (k + 1) + i) (by omega)
  have hb : bb.toInt = k.toInt + 1 := by rw [hbb]; exact t1
  refine ⟨own_nlt (by omega), own_lt (by omega), own_nlt (by omega), own_lt (by omega), ?_⟩
  rw [own_subg _ _ _ _ (by omega), own_get0  (bb.toNatClampNeg + i.toNatClampNeg) (by omega), show bb.toNatClampNeg + i.toNatClampNeg = ((k + 1) + i).toNatClampNeg from by omega]
theorem own_m0 {k mm bb : Int32} (hk : -1 ≤ k.toInt ∧ k.toInt < 0) (hbb : bb = k + 1) (hmm : mm = (0 : Int32) - bb) : mm = ((0 : Int32) - k) - 1 := by
  have e1 : (1 : Int32).toInt = 1 := by decide
  have en : (0 : Int32).toInt = 0 := by decide
  have a1 := c_iadd k 1
  have a3 := c_isub (0 : Int32) bb
  have a4 := c_isub (0 : Int32) k
  have a5 := c_isub ((0 : Int32) - k) 1
  have r1 := rng32 (k + 1)
  have r3 := rng32 mm
  have r4 := rng32 ((0 : Int32) - k)
  have r5 := rng32 (((0 : Int32) - k) - 1)
  rw [← hmm] at a3
  rw [hbb] at a3
  exact Int32.toInt_inj.mp (by omega)
theorem own_mb1 (x0 p q : Int32) : -1 ≤ (own_max (own_li1 p x0 ) (own_li1 q x0 )).toInt ∧ (own_max (own_li1 p x0 ) (own_li1 q x0 )).toInt < 1 := by
  have b1 := own_lib1 p x0 
  have b2 := own_lib1 q x0 
  unfold own_max
  split <;> omega
theorem own_get1 {c0 c1 c2 c3 c4 : Int32} (hk0 : own_ok c0) (j : Nat) (hj : j < 1) : own_c (([own_b c0] : List Int32).getD j 0) = ([c0, c1, c2, c3, c4] : List Int32).getD j 0 := by
  rcases (by omega : j = 0) with rfl
  · exact own_bc hk0
theorem own_hat1 {c0 c1 c2 c3 c4 k mm bb i : Int32} (hk0 : own_ok c0) (hk : -1 ≤ k.toInt ∧ k.toInt < 1) (hbb : bb = k + 1) (hmm : mm = (1 : Int32) - bb) (h0 : 0 ≤ i.toInt) (h4 : i.toInt ≤ 4) :
    i < ((1 : Int32) - k) - 1 → ¬ i < 0 ∧ i < mm ∧ ¬ (k + 1) + i < 0 ∧ (k + 1) + i < (5 : Int32) ∧ own_c ((own_sub [own_b c0] bb mm).getD i.toNatClampNeg 0) = ([c0, c1, c2, c3, c4] : List Int32).getD ((k + 1) + i).toNatClampNeg 0 := by
  intro hlt
  have e1 : (1 : Int32).toInt = 1 := by decide
  have e5 : (5 : Int32).toInt = 5 := by decide
  have e0 : (0 : Int32).toInt = 0 := by decide
  have en : (1 : Int32).toInt = 1 := by decide
  have a1 := c_iadd k 1
  have a2 := c_iadd (k + 1) i
  have a3 := c_isub (1 : Int32) bb
  have a4 := c_isub (1 : Int32) k
  have a5 := c_isub ((1 : Int32) - k) 1
  have r1 := rng32 (k + 1)
  have r2 := rng32 ((k + 1) + i)
  have r3 := rng32 mm
  have r4 := rng32 ((1 : Int32) - k)
  have r5 := rng32 (((1 : Int32) - k) - 1)
  rw [← hmm] at a3
  rw [hbb] at a3
  have l := own_lt0 hlt
  have t1 : (k + 1).toInt = k.toInt + 1 := by omega
  have t2 : ((k + 1) + i).toInt = k.toInt + 1 + i.toInt := by omega
  have t3 : mm.toInt = 1 - (k.toInt + 1) := by omega
  have t4 : ((1 : Int32) - k).toInt = 1 - k.toInt := by omega
  have t5 : (((1 : Int32) - k) - 1).toInt = 1 - k.toInt - 1 := by omega
  clear a1 a2 a3 a4 a5 r1 r2 r3 r4 r5
  have n1 := own_nat (j := i) h0
  have n2 := own_nat (j := mm) (by omega)
  have n3 := own_nat (j := bb) (by rw [hbb]; omega)
  have n4 := own_nat (j := (k + 1) + i) (by omega)
  have hb : bb.toInt = k.toInt + 1 := by rw [hbb]; exact t1
  refine ⟨own_nlt (by omega), own_lt (by omega), own_nlt (by omega), own_lt (by omega), ?_⟩
  rw [own_subg _ _ _ _ (by omega), own_get1 hk0 (bb.toNatClampNeg + i.toNatClampNeg) (by omega), show bb.toNatClampNeg + i.toNatClampNeg = ((k + 1) + i).toNatClampNeg from by omega]
theorem own_m1 {k mm bb : Int32} (hk : -1 ≤ k.toInt ∧ k.toInt < 1) (hbb : bb = k + 1) (hmm : mm = (1 : Int32) - bb) : mm = ((1 : Int32) - k) - 1 := by
  have e1 : (1 : Int32).toInt = 1 := by decide
  have en : (1 : Int32).toInt = 1 := by decide
  have a1 := c_iadd k 1
  have a3 := c_isub (1 : Int32) bb
  have a4 := c_isub (1 : Int32) k
  have a5 := c_isub ((1 : Int32) - k) 1
  have r1 := rng32 (k + 1)
  have r3 := rng32 mm
  have r4 := rng32 ((1 : Int32) - k)
  have r5 := rng32 (((1 : Int32) - k) - 1)
  rw [← hmm] at a3
  rw [hbb] at a3
  exact Int32.toInt_inj.mp (by omega)
theorem own_mb2 (x0 x1 p q : Int32) : -1 ≤ (own_max (own_li2 p x0 x1 ) (own_li2 q x0 x1 )).toInt ∧ (own_max (own_li2 p x0 x1 ) (own_li2 q x0 x1 )).toInt < 2 := by
  have b1 := own_lib2 p x0 x1 
  have b2 := own_lib2 q x0 x1 
  unfold own_max
  split <;> omega
theorem own_get2 {c0 c1 c2 c3 c4 : Int32} (hk0 : own_ok c0) (hk1 : own_ok c1) (j : Nat) (hj : j < 2) : own_c (([own_b c0, own_b c1] : List Int32).getD j 0) = ([c0, c1, c2, c3, c4] : List Int32).getD j 0 := by
  rcases (by omega : j = 0 ∨ j = 1) with rfl | rfl
  · exact own_bc hk0
  · exact own_bc hk1
theorem own_hat2 {c0 c1 c2 c3 c4 k mm bb i : Int32} (hk0 : own_ok c0) (hk1 : own_ok c1) (hk : -1 ≤ k.toInt ∧ k.toInt < 2) (hbb : bb = k + 1) (hmm : mm = (2 : Int32) - bb) (h0 : 0 ≤ i.toInt) (h4 : i.toInt ≤ 4) :
    i < ((2 : Int32) - k) - 1 → ¬ i < 0 ∧ i < mm ∧ ¬ (k + 1) + i < 0 ∧ (k + 1) + i < (5 : Int32) ∧ own_c ((own_sub [own_b c0, own_b c1] bb mm).getD i.toNatClampNeg 0) = ([c0, c1, c2, c3, c4] : List Int32).getD ((k + 1) + i).toNatClampNeg 0 := by
  intro hlt
  have e1 : (1 : Int32).toInt = 1 := by decide
  have e5 : (5 : Int32).toInt = 5 := by decide
  have e0 : (0 : Int32).toInt = 0 := by decide
  have en : (2 : Int32).toInt = 2 := by decide
  have a1 := c_iadd k 1
  have a2 := c_iadd (k + 1) i
  have a3 := c_isub (2 : Int32) bb
  have a4 := c_isub (2 : Int32) k
  have a5 := c_isub ((2 : Int32) - k) 1
  have r1 := rng32 (k + 1)
  have r2 := rng32 ((k + 1) + i)
  have r3 := rng32 mm
  have r4 := rng32 ((2 : Int32) - k)
  have r5 := rng32 (((2 : Int32) - k) - 1)
  rw [← hmm] at a3
  rw [hbb] at a3
  have l := own_lt0 hlt
  have t1 : (k + 1).toInt = k.toInt + 1 := by omega
  have t2 : ((k + 1) + i).toInt = k.toInt + 1 + i.toInt := by omega
  have t3 : mm.toInt = 2 - (k.toInt + 1) := by omega
  have t4 : ((2 : Int32) - k).toInt = 2 - k.toInt := by omega
  have t5 : (((2 : Int32) - k) - 1).toInt = 2 - k.toInt - 1 := by omega
  clear a1 a2 a3 a4 a5 r1 r2 r3 r4 r5
  have n1 := own_nat (j := i) h0
  have n2 := own_nat (j := mm) (by omega)
  have n3 := own_nat (j := bb) (by rw [hbb]; omega)
  have n4 := own_nat (j := (k + 1) + i) (by omega)
  have hb : bb.toInt = k.toInt + 1 := by rw [hbb]; exact t1
  refine ⟨own_nlt (by omega), own_lt (by omega), own_nlt (by omega), own_lt (by omega), ?_⟩
  rw [own_subg _ _ _ _ (by omega), own_get2 hk0 hk1 (bb.toNatClampNeg + i.toNatClampNeg) (by omega), show bb.toNatClampNeg + i.toNatClampNeg = ((k + 1) + i).toNatClampNeg from by omega]
theorem own_m2 {k mm bb : Int32} (hk : -1 ≤ k.toInt ∧ k.toInt < 2) (hbb : bb = k + 1) (hmm : mm = (2 : Int32) - bb) : mm = ((2 : Int32) - k) - 1 := by
  have e1 : (1 : Int32).toInt = 1 := by decide
  have en : (2 : Int32).toInt = 2 := by decide
  have a1 := c_iadd k 1
  have a3 := c_isub (2 : Int32) bb
  have a4 := c_isub (2 : Int32) k
  have a5 := c_isub ((2 : Int32) - k) 1
  have r1 := rng32 (k + 1)
  have r3 := rng32 mm
  have r4 := rng32 ((2 : Int32) - k)
  have r5 := rng32 (((2 : Int32) - k) - 1)
  rw [← hmm] at a3
  rw [hbb] at a3
  exact Int32.toInt_inj.mp (by omega)
theorem own_mb3 (x0 x1 x2 p q : Int32) : -1 ≤ (own_max (own_li3 p x0 x1 x2 ) (own_li3 q x0 x1 x2 )).toInt ∧ (own_max (own_li3 p x0 x1 x2 ) (own_li3 q x0 x1 x2 )).toInt < 3 := by
  have b1 := own_lib3 p x0 x1 x2 
  have b2 := own_lib3 q x0 x1 x2 
  unfold own_max
  split <;> omega
theorem own_get3 {c0 c1 c2 c3 c4 : Int32} (hk0 : own_ok c0) (hk1 : own_ok c1) (hk2 : own_ok c2) (j : Nat) (hj : j < 3) : own_c (([own_b c0, own_b c1, own_b c2] : List Int32).getD j 0) = ([c0, c1, c2, c3, c4] : List Int32).getD j 0 := by
  rcases (by omega : j = 0 ∨ j = 1 ∨ j = 2) with rfl | rfl | rfl
  · exact own_bc hk0
  · exact own_bc hk1
  · exact own_bc hk2
theorem own_hat3 {c0 c1 c2 c3 c4 k mm bb i : Int32} (hk0 : own_ok c0) (hk1 : own_ok c1) (hk2 : own_ok c2) (hk : -1 ≤ k.toInt ∧ k.toInt < 3) (hbb : bb = k + 1) (hmm : mm = (3 : Int32) - bb) (h0 : 0 ≤ i.toInt) (h4 : i.toInt ≤ 4) :
    i < ((3 : Int32) - k) - 1 → ¬ i < 0 ∧ i < mm ∧ ¬ (k + 1) + i < 0 ∧ (k + 1) + i < (5 : Int32) ∧ own_c ((own_sub [own_b c0, own_b c1, own_b c2] bb mm).getD i.toNatClampNeg 0) = ([c0, c1, c2, c3, c4] : List Int32).getD ((k + 1) + i).toNatClampNeg 0 := by
  intro hlt
  have e1 : (1 : Int32).toInt = 1 := by decide
  have e5 : (5 : Int32).toInt = 5 := by decide
  have e0 : (0 : Int32).toInt = 0 := by decide
  have en : (3 : Int32).toInt = 3 := by decide
  have a1 := c_iadd k 1
  have a2 := c_iadd (k + 1) i
  have a3 := c_isub (3 : Int32) bb
  have a4 := c_isub (3 : Int32) k
  have a5 := c_isub ((3 : Int32) - k) 1
  have r1 := rng32 (k + 1)
  have r2 := rng32 ((k + 1) + i)
  have r3 := rng32 mm
  have r4 := rng32 ((3 : Int32) - k)
  have r5 := rng32 (((3 : Int32) - k) - 1)
  rw [← hmm] at a3
  rw [hbb] at a3
  have l := own_lt0 hlt
  have t1 : (k + 1).toInt = k.toInt + 1 := by omega
  have t2 : ((k + 1) + i).toInt = k.toInt + 1 + i.toInt := by omega
  have t3 : mm.toInt = 3 - (k.toInt + 1) := by omega
  have t4 : ((3 : Int32) - k).toInt = 3 - k.toInt := by omega
  have t5 : (((3 : Int32) - k) - 1).toInt = 3 - k.toInt - 1 := by omega
  clear a1 a2 a3 a4 a5 r1 r2 r3 r4 r5
  have n1 := own_nat (j := i) h0
  have n2 := own_nat (j := mm) (by omega)
  have n3 := own_nat (j := bb) (by rw [hbb]; omega)
  have n4 := own_nat (j := (k + 1) + i) (by omega)
  have hb : bb.toInt = k.toInt + 1 := by rw [hbb]; exact t1
  refine ⟨own_nlt (by omega), own_lt (by omega), own_nlt (by omega), own_lt (by omega), ?_⟩
  rw [own_subg _ _ _ _ (by omega), own_get3 hk0 hk1 hk2 (bb.toNatClampNeg + i.toNatClampNeg) (by omega), show bb.toNatClampNeg + i.toNatClampNeg = ((k + 1) + i).toNatClampNeg from by omega]
theorem own_m3 {k mm bb : Int32} (hk : -1 ≤ k.toInt ∧ k.toInt < 3) (hbb : bb = k + 1) (hmm : mm = (3 : Int32) - bb) : mm = ((3 : Int32) - k) - 1 := by
  have e1 : (1 : Int32).toInt = 1 := by decide
  have en : (3 : Int32).toInt = 3 := by decide
  have a1 := c_iadd k 1
  have a3 := c_isub (3 : Int32) bb
  have a4 := c_isub (3 : Int32) k
  have a5 := c_isub ((3 : Int32) - k) 1
  have r1 := rng32 (k + 1)
  have r3 := rng32 mm
  have r4 := rng32 ((3 : Int32) - k)
  have r5 := rng32 (((3 : Int32) - k) - 1)
  rw [← hmm] at a3
  rw [hbb] at a3
  exact Int32.toInt_inj.mp (by omega)
theorem own_mb4 (x0 x1 x2 x3 p q : Int32) : -1 ≤ (own_max (own_li4 p x0 x1 x2 x3 ) (own_li4 q x0 x1 x2 x3 )).toInt ∧ (own_max (own_li4 p x0 x1 x2 x3 ) (own_li4 q x0 x1 x2 x3 )).toInt < 4 := by
  have b1 := own_lib4 p x0 x1 x2 x3 
  have b2 := own_lib4 q x0 x1 x2 x3 
  unfold own_max
  split <;> omega
theorem own_get4 {c0 c1 c2 c3 c4 : Int32} (hk0 : own_ok c0) (hk1 : own_ok c1) (hk2 : own_ok c2) (hk3 : own_ok c3) (j : Nat) (hj : j < 4) : own_c (([own_b c0, own_b c1, own_b c2, own_b c3] : List Int32).getD j 0) = ([c0, c1, c2, c3, c4] : List Int32).getD j 0 := by
  rcases (by omega : j = 0 ∨ j = 1 ∨ j = 2 ∨ j = 3) with rfl | rfl | rfl | rfl
  · exact own_bc hk0
  · exact own_bc hk1
  · exact own_bc hk2
  · exact own_bc hk3
theorem own_hat4 {c0 c1 c2 c3 c4 k mm bb i : Int32} (hk0 : own_ok c0) (hk1 : own_ok c1) (hk2 : own_ok c2) (hk3 : own_ok c3) (hk : -1 ≤ k.toInt ∧ k.toInt < 4) (hbb : bb = k + 1) (hmm : mm = (4 : Int32) - bb) (h0 : 0 ≤ i.toInt) (h4 : i.toInt ≤ 4) :
    i < ((4 : Int32) - k) - 1 → ¬ i < 0 ∧ i < mm ∧ ¬ (k + 1) + i < 0 ∧ (k + 1) + i < (5 : Int32) ∧ own_c ((own_sub [own_b c0, own_b c1, own_b c2, own_b c3] bb mm).getD i.toNatClampNeg 0) = ([c0, c1, c2, c3, c4] : List Int32).getD ((k + 1) + i).toNatClampNeg 0 := by
  intro hlt
  have e1 : (1 : Int32).toInt = 1 := by decide
  have e5 : (5 : Int32).toInt = 5 := by decide
  have e0 : (0 : Int32).toInt = 0 := by decide
  have en : (4 : Int32).toInt = 4 := by decide
  have a1 := c_iadd k 1
  have a2 := c_iadd (k + 1) i
  have a3 := c_isub (4 : Int32) bb
  have a4 := c_isub (4 : Int32) k
  have a5 := c_isub ((4 : Int32) - k) 1
  have r1 := rng32 (k + 1)
  have r2 := rng32 ((k + 1) + i)
  have r3 := rng32 mm
  have r4 := rng32 ((4 : Int32) - k)
  have r5 := rng32 (((4 : Int32) - k) - 1)
  rw [← hmm] at a3
  rw [hbb] at a3
  have l := own_lt0 hlt
  have t1 : (k + 1).toInt = k.toInt + 1 := by omega
  have t2 : ((k + 1) + i).toInt = k.toInt + 1 + i.toInt := by omega
  have t3 : mm.toInt = 4 - (k.toInt + 1) := by omega
  have t4 : ((4 : Int32) - k).toInt = 4 - k.toInt := by omega
  have t5 : (((4 : Int32) - k) - 1).toInt = 4 - k.toInt - 1 := by omega
  clear a1 a2 a3 a4 a5 r1 r2 r3 r4 r5
  have n1 := own_nat (j := i) h0
  have n2 := own_nat (j := mm) (by omega)
  have n3 := own_nat (j := bb) (by rw [hbb]; omega)
  have n4 := own_nat (j := (k + 1) + i) (by omega)
  have hb : bb.toInt = k.toInt + 1 := by rw [hbb]; exact t1
  refine ⟨own_nlt (by omega), own_lt (by omega), own_nlt (by omega), own_lt (by omega), ?_⟩
  rw [own_subg _ _ _ _ (by omega), own_get4 hk0 hk1 hk2 hk3 (bb.toNatClampNeg + i.toNatClampNeg) (by omega), show bb.toNatClampNeg + i.toNatClampNeg = ((k + 1) + i).toNatClampNeg from by omega]
theorem own_m4 {k mm bb : Int32} (hk : -1 ≤ k.toInt ∧ k.toInt < 4) (hbb : bb = k + 1) (hmm : mm = (4 : Int32) - bb) : mm = ((4 : Int32) - k) - 1 := by
  have e1 : (1 : Int32).toInt = 1 := by decide
  have en : (4 : Int32).toInt = 4 := by decide
  have a1 := c_iadd k 1
  have a3 := c_isub (4 : Int32) bb
  have a4 := c_isub (4 : Int32) k
  have a5 := c_isub ((4 : Int32) - k) 1
  have r1 := rng32 (k + 1)
  have r3 := rng32 mm
  have r4 := rng32 ((4 : Int32) - k)
  have r5 := rng32 (((4 : Int32) - k) - 1)
  rw [← hmm] at a3
  rw [hbb] at a3
  exact Int32.toInt_inj.mp (by omega)
theorem own_mb5 (x0 x1 x2 x3 x4 p q : Int32) : -1 ≤ (own_max (own_li5 p x0 x1 x2 x3 x4 ) (own_li5 q x0 x1 x2 x3 x4 )).toInt ∧ (own_max (own_li5 p x0 x1 x2 x3 x4 ) (own_li5 q x0 x1 x2 x3 x4 )).toInt < 5 := by
  have b1 := own_lib5 p x0 x1 x2 x3 x4 
  have b2 := own_lib5 q x0 x1 x2 x3 x4 
  unfold own_max
  split <;> omega
theorem own_get5 {c0 c1 c2 c3 c4 : Int32} (hk0 : own_ok c0) (hk1 : own_ok c1) (hk2 : own_ok c2) (hk3 : own_ok c3) (hk4 : own_ok c4) (j : Nat) (hj : j < 5) : own_c (([own_b c0, own_b c1, own_b c2, own_b c3, own_b c4] : List Int32).getD j 0) = ([c0, c1, c2, c3, c4] : List Int32).getD j 0 := by
  rcases (by omega : j = 0 ∨ j = 1 ∨ j = 2 ∨ j = 3 ∨ j = 4) with rfl | rfl | rfl | rfl | rfl
  · exact own_bc hk0
  · exact own_bc hk1
  · exact own_bc hk2
  · exact own_bc hk3
  · exact own_bc hk4
theorem own_hat5 {c0 c1 c2 c3 c4 k mm bb i : Int32} (hk0 : own_ok c0) (hk1 : own_ok c1) (hk2 : own_ok c2) (hk3 : own_ok c3) (hk4 : own_ok c4) (hk : -1 ≤ k.toInt ∧ k.toInt < 5) (hbb : bb = k + 1) (hmm : mm = (5 : Int32) - bb) (h0 : 0 ≤ i.toInt) (h4 : i.toInt ≤ 4) :
    i < ((5 : Int32) - k) - 1 → ¬ i < 0 ∧ i < mm ∧ ¬ (k + 1) + i < 0 ∧ (k + 1) + i < (5 : Int32) ∧ own_c ((own_sub [own_b c0, own_b c1, own_b c2, own_b c3, own_b c4] bb mm).getD i.toNatClampNeg 0) = ([c0, c1, c2, c3, c4] : List Int32).getD ((k + 1) + i).toNatClampNeg 0 := by
  intro hlt
  have e1 : (1 : Int32).toInt = 1 := by decide
  have e5 : (5 : Int32).toInt = 5 := by decide
  have e0 : (0 : Int32).toInt = 0 := by decide
  have en : (5 : Int32).toInt = 5 := by decide
  have a1 := c_iadd k 1
  have a2 := c_iadd (k + 1) i
  have a3 := c_isub (5 : Int32) bb
  have a4 := c_isub (5 : Int32) k
  have a5 := c_isub ((5 : Int32) - k) 1
  have r1 := rng32 (k + 1)
  have r2 := rng32 ((k + 1) + i)
  have r3 := rng32 mm
  have r4 := rng32 ((5 : Int32) - k)
  have r5 := rng32 (((5 : Int32) - k) - 1)
  rw [← hmm] at a3
  rw [hbb] at a3
  have l := own_lt0 hlt
  have t1 : (k + 1).toInt = k.toInt + 1 := by omega
  have t2 : ((k + 1) + i).toInt = k.toInt + 1 + i.toInt := by omega
  have t3 : mm.toInt = 5 - (k.toInt + 1) := by omega
  have t4 : ((5 : Int32) - k).toInt = 5 - k.toInt := by omega
  have t5 : (((5 : Int32) - k) - 1).toInt = 5 - k.toInt - 1 := by omega
  clear a1 a2 a3 a4 a5 r1 r2 r3 r4 r5
  have n1 := own_nat (j := i) h0
  have n2 := own_nat (j := mm) (by omega)
  have n3 := own_nat (j := bb) (by rw [hbb]; omega)
  have n4 := own_nat (j := (k + 1) + i) (by omega)
  have hb : bb.toInt = k.toInt + 1 := by rw [hbb]; exact t1
  refine ⟨own_nlt (by omega), own_lt (by omega), own_nlt (by omega), own_lt (by omega), ?_⟩
  rw [own_subg _ _ _ _ (by omega), own_get5 hk0 hk1 hk2 hk3 hk4 (bb.toNatClampNeg + i.toNatClampNeg) (by omega), show bb.toNatClampNeg + i.toNatClampNeg = ((k + 1) + i).toNatClampNeg from by omega]
theorem own_m5 {k mm bb : Int32} (hk : -1 ≤ k.toInt ∧ k.toInt < 5) (hbb : bb = k + 1) (hmm : mm = (5 : Int32) - bb) : mm = ((5 : Int32) - k) - 1 := by
  have e1 : (1 : Int32).toInt = 1 := by decide
  have en : (5 : Int32).toInt = 5 := by decide
  have a1 := c_iadd k 1
  have a3 := c_isub (5 : Int32) bb
  have a4 := c_isub (5 : Int32) k
  have a5 := c_isub ((5 : Int32) - k) 1
  have r1 := rng32 (k + 1)
  have r3 := rng32 mm
  have r4 := rng32 ((5 : Int32) - k)
  have r5 := rng32 (((5 : Int32) - k) - 1)
  rw [← hmm] at a3
  rw [hbb] at a3
  exact Int32.toInt_inj.mp (by omega)
def own_lix (k : Int32) : List Int32 → Int32
  | [] => own_li0 k
  | [x0] => own_li1 k x0
  | [x0, x1] => own_li2 k x0 x1
  | [x0, x1, x2] => own_li3 k x0 x1 x2
  | [x0, x1, x2, x3] => own_li4 k x0 x1 x2 x3
  | [x0, x1, x2, x3, x4] => own_li5 k x0 x1 x2 x3 x4
  | _ => (-1 : Int32)
theorem own_l6 {z : Int32} {xs : List Int32} (h : z.toNatClampNeg = xs.length) (h5 : z.toInt ≤ 5) (h0 : ¬ z < 0) : (z = 0 ∧ xs = []) ∨ (∃ x0, z = 1 ∧ xs = [x0]) ∨ (∃ x0 x1, z = 2 ∧ xs = [x0, x1]) ∨ (∃ x0 x1 x2, z = 3 ∧ xs = [x0, x1, x2]) ∨ (∃ x0 x1 x2 x3, z = 4 ∧ xs = [x0, x1, x2, x3]) ∨ (∃ x0 x1 x2 x3 x4, z = 5 ∧ xs = [x0, x1, x2, x3, x4]) := by
  have q := own_nat (j := z) (by have := own_nlt' h0; rw [own_i0] at this; exact this)
  match xs, h with
  | [], h => exact Or.inl ⟨Int32.toInt_inj.mp (by rw [← q, h]; show ((0 : Nat) : Int) = (0 : Int32).toInt; decide), rfl⟩
  | [x0], h => exact Or.inr (Or.inl ⟨x0, Int32.toInt_inj.mp (by rw [← q, h]; show ((1 : Nat) : Int) = (1 : Int32).toInt; decide), rfl⟩)
  | [x0, x1], h => exact Or.inr (Or.inr (Or.inl ⟨x0, x1, Int32.toInt_inj.mp (by rw [← q, h]; show ((2 : Nat) : Int) = (2 : Int32).toInt; decide), rfl⟩))
  | [x0, x1, x2], h => exact Or.inr (Or.inr (Or.inr (Or.inl ⟨x0, x1, x2, Int32.toInt_inj.mp (by rw [← q, h]; show ((3 : Nat) : Int) = (3 : Int32).toInt; decide), rfl⟩)))
  | [x0, x1, x2, x3], h => exact Or.inr (Or.inr (Or.inr (Or.inr (Or.inl ⟨x0, x1, x2, x3, Int32.toInt_inj.mp (by rw [← q, h]; show ((4 : Nat) : Int) = (4 : Int32).toInt; decide), rfl⟩))))
  | [x0, x1, x2, x3, x4], h => exact Or.inr (Or.inr (Or.inr (Or.inr (Or.inr (⟨x0, x1, x2, x3, x4, Int32.toInt_inj.mp (by rw [← q, h]; show ((5 : Nat) : Int) = (5 : Int32).toInt; decide), rfl⟩)))))
  | _ :: _ :: _ :: _ :: _ :: _ :: _, h => simp only [List.length_cons] at h; omega
theorem own_mbx (p q : Int32) {z : Int32} {xs : List Int32} (h : z.toNatClampNeg = xs.length) (h5 : z.toInt ≤ 5) (h0 : ¬ z < 0) : -1 ≤ (own_max (own_lix p xs) (own_lix q xs)).toInt ∧ (own_max (own_lix p xs) (own_lix q xs)).toInt < z.toInt := by
  rcases own_l6 h h5 h0 with ⟨rfl, rfl⟩ | ⟨x0, rfl, rfl⟩ | ⟨x0, x1, rfl, rfl⟩ | ⟨x0, x1, x2, rfl, rfl⟩ | ⟨x0, x1, x2, x3, rfl, rfl⟩ | ⟨x0, x1, x2, x3, x4, rfl, rfl⟩
  · exact own_mb0 p q
  · exact own_mb1 x0 p q
  · exact own_mb2 x0 x1 p q
  · exact own_mb3 x0 x1 x2 p q
  · exact own_mb4 x0 x1 x2 x3 p q
  · exact own_mb5 x0 x1 x2 x3 x4 p q
theorem own_n6 {x z : Int32} (h : z = ((x &&& (7 : Int32)) % (6 : Int32))) : z = 0 ∨ z = 1 ∨ z = 2 ∨ z = 3 ∨ z = 4 ∨ z = 5 := by
  have a := c_mask x 7 3 (by decide) (by decide)
  have b := (c_irem (x &&& 7) 6 6 (by decide)).1 (by rw [a]; omega)
  rw [← h] at b
  have q : z.toInt = 0 ∨ z.toInt = 1 ∨ z.toInt = 2 ∨ z.toInt = 3 ∨ z.toInt = 4 ∨ z.toInt = 5 := by omega
  rcases q with q | q | q | q | q | q
  · exact Or.inl (Int32.toInt_inj.mp q)
  · exact Or.inr (Or.inl (Int32.toInt_inj.mp q))
  · exact Or.inr (Or.inr (Or.inl (Int32.toInt_inj.mp q)))
  · exact Or.inr (Or.inr (Or.inr (Or.inl (Int32.toInt_inj.mp q))))
  · exact Or.inr (Or.inr (Or.inr (Or.inr (Or.inl (Int32.toInt_inj.mp q)))))
  · exact Or.inr (Or.inr (Or.inr (Or.inr (Or.inr (Int32.toInt_inj.mp q)))))
theorem d1_0 : decode method_2_code 0 = .ok (.iload_n 0, 1) := by decide +kernel
theorem d1_1 : decode method_2_code 1 = .ok (.iconst 3, 1) := by decide +kernel
theorem d1_2 : decode method_2_code 2 = .ok (.iand, 1) := by decide +kernel
theorem d1_3 : decode method_2_code 3 = .ok (.istore_n 1, 1) := by decide +kernel
theorem d1_4 : decode method_2_code 4 = .ok (.iload_n 1, 1) := by decide +kernel
theorem d1_5 : decode method_2_code 5 = .ok (.ifCond .ne 6, 3) := by decide +kernel
theorem d1_8 : decode method_2_code 8 = .ok (.bipush 47, 2) := by decide +kernel
theorem d1_10 : decode method_2_code 10 = .ok (.ireturn, 1) := by decide +kernel
theorem d1_11 : decode method_2_code 11 = .ok (.iload_n 1, 1) := by decide +kernel
theorem d1_12 : decode method_2_code 12 = .ok (.iconst 1, 1) := by decide +kernel
theorem d1_13 : decode method_2_code 13 = .ok (.if_icmp .ne 6, 3) := by decide +kernel
theorem d1_16 : decode method_2_code 16 = .ok (.bipush 92, 2) := by decide +kernel
theorem d1_18 : decode method_2_code 18 = .ok (.ireturn, 1) := by decide +kernel
theorem d1_19 : decode method_2_code 19 = .ok (.iload_n 0, 1) := by decide +kernel
theorem d1_20 : decode method_2_code 20 = .ok (.iconst 2, 1) := by decide +kernel
theorem d1_21 : decode method_2_code 21 = .ok (.iushr, 1) := by decide +kernel
theorem d1_22 : decode method_2_code 22 = .ok (.sipush 255, 3) := by decide +kernel
theorem d1_25 : decode method_2_code 25 = .ok (.iand, 1) := by decide +kernel
theorem d1_26 : decode method_2_code 26 = .ok (.i2c, 1) := by decide +kernel
theorem d1_27 : decode method_2_code 27 = .ok (.ireturn, 1) := by decide +kernel
theorem pn_FormPartLastPathComponentPinLaw : plainName "com/example/partwright/partwright/reader/FormPartLastPathComponentPinLaw" = true := by first | (simp [plainName, overriddenIn]; done) | decide +kernel
theorem ef_rm1 (m : MethodId) (x0 : Int32) : entryFrame m #[(.int x0)] 2 = mkF m 0 #[.val (.int x0), .unset] [] := by first | (simp [entryFrame, mkF, argsToLocals, Value.category]; done) | rfl
def Q1 (Z : State) (p1 : Int32) (h0 : Heap) (n0 : Nat) (v : Option Value) (h : Heap) (L : List Loc) : Prop := ∃ (r : Int32), v = some (.int r) ∧ (own_ok r) ∧ Fr n0 L ∧ h = h0
set_option maxRecDepth 65536 in
set_option maxHeartbeats 40000000 in
theorem rm1 (l : Launch) (Z : State) (a0 : Array Value) (hw : ∀ d ∈ tables_1, d.before a0 Z = true) (ws : List Jvm.Cond) (p1 : Int32) (h0 : Heap) (n0 : Nat) (O0 : Old Z n0 h0) :
    MetFree l (⟨"com/example/partwright/partwright/reader/FormPartLastPathComponentPinLaw", "ch", "(I)C"⟩ : MethodName) (head1 (Jvm.Cond.code (⟨"com/example/partwright/partwright/reader/FormPartLastPathComponentPinLaw", "ch", "(I)C"⟩ : MethodName) method_2_code 2 (some .char) :: ws) ({ frames := 0, cells := 0, slots := 0, locals := 0 } : Room)) (fun a U => a = #[(.int p1)] ∧ Z.Warmed39 U.vm ∧ U.heap = h0) (fun _ _ _ _ _ => True) (fun _ U o U' => ∃ v L, o = .returned v ∧ Q1 Z p1 h0 n0 v U'.heap L ∧ FrameEnd U o U' L ({ frames := 0, cells := 0, slots := 0, locals := 0 } : Room).cells ({ frames := 0, cells := 0, slots := 0, locals := 0 } : Room).slots) := by
  refine MetFree.of_bodySF (plainFor_of_name pn_FormPartLastPathComponentPinLaw) hisR ?_
  intro p e s m args below meth c s₁ Bd hml0 hP hK
  obtain ⟨rfl, hZ, hh⟩ := hP
  have hx := Bd.exec
  have hby := Bd.bytes
  have hlk : meth.locks = false := BodyLoose.notSynchronized Bd
  have hml : c.maxLocals = 2 := hml0
  have hown : s.vm.findClass "com/example/partwright/partwright/reader/FormPartLastPathComponentPinLaw" = some m.cls := findClass_of_methodNamed Bd.named
  have hnm := (name_of_methodNamed Bd.named Bd.method).1
  have X0 : Stand p l e ({ frames := 0, cells := 0, slots := 0, locals := 0 } : Room) s m #[(.int p1)] below meth c s₁ [] 0 0 := Stand.of_body Bd
  have e0 : s₁.heap = h0 := by rw [← hh, Bd.state]; rfl
  have N0 := Fr.nil n0
  show Goes p e below s (Q1 Z p1 h0 n0) ({ frames := 0, cells := 0, slots := 0, locals := 0 } : Room).cells ({ frames := 0, cells := 0, slots := 0, locals := 0 } : Room).slots (s₁.setTop (entryFrame m #[(.int p1)] 2))
  refine Goes.enter (g' := (mkF m 0 #[.val (.int p1), .unset] [])) (ef_rm1 m p1) ?_
  refine Goes.step (fun _ k => pw_iloadN X0.here hx (hb hby d1_0) rfl _ (pw_iconst X0.here hx (v := (3 : Int32)) (hb hby d1_1) rfl _ (pw_iand X0.here hx (hb hby d1_2) _ (pw_istoreN X0.here hx (l' := #[.val (.int p1), .val (.int (p1 &&& (3 : Int32)))]) (hb hby d1_3) rfl _ (pw_iloadN X0.here hx (hb hby d1_4) rfl _ k))))) ?_
  by_cases hc5_0 : (p1 &&& (3 : Int32)) = (0 : Int32)
  · refine Goes.step (fun _ k => pw_ifNo X0.here hx (hb hby d1_5) ((if0 _ _).trans (teq hc5_0).2) _ (pw_bipush X0.here hx (v := (47 : Int32)) (hb hby d1_8) rfl _ k)) ?_
    exact Goes.retN X0 hx e0 (t := .char) Bd.returns (by simp) hlk (hb hby d1_10) (by decide) (by decide) (⟨_, rfl, own_okn (by decide) (by decide), N0, rfl⟩)
  · refine Goes.step (fun _ k => pw_ifYes X0.here hx (pc' := 11) (hb hby d1_5) ((if0 _ _).trans (feq hc5_0).2) (by decide) (by decide) _ (pw_iloadN X0.here hx (hb hby d1_11) rfl _ (pw_iconst X0.here hx (v := (1 : Int32)) (hb hby d1_12) rfl _ k))) ?_
    by_cases hc13_1 : (p1 &&& (3 : Int32)) = (1 : Int32)
    · refine Goes.step (fun _ k => pw_icmpNo X0.here hx (hb hby d1_13) (teq hc13_1).2 _ (pw_bipush X0.here hx (v := (92 : Int32)) (hb hby d1_16) rfl _ k)) ?_
      exact Goes.retN X0 hx e0 (t := .char) Bd.returns (by simp) hlk (hb hby d1_18) (by decide) (by decide) (⟨_, rfl, own_okn (by decide) (by decide), N0, rfl⟩)
    · refine Goes.step (fun _ k => pw_icmpYes X0.here hx (pc' := 19) (hb hby d1_13) (feq hc13_1).2 (by decide) (by decide) _ (pw_iloadN X0.here hx (hb hby d1_19) rfl _ (pw_iconst X0.here hx (v := (2 : Int32)) (hb hby d1_20) rfl _ k))) ?_
      refine Goes.step (B := s₁.setTop (mkF m 22 #[.val (.int p1), .val (.int (p1 &&& (3 : Int32)))] [(.int ((p1.toUInt32 >>> ((2 : Int32) &&& 31).toUInt32).toInt32))])) (fun _ k => XS.iushr X0.here hx rfl (hb hby d1_21) rfl k) ?_
      refine Goes.step (fun _ k => pw_sipush X0.here hx (v := (255 : Int32)) (hb hby d1_22) rfl _ (pw_iand X0.here hx (hb hby d1_25) _ k)) ?_
      refine Goes.step (B := s₁.setTop (mkF m 27 #[.val (.int p1), .val (.int (p1 &&& (3 : Int32)))] [(.int (((p1.toUInt32 >>> ((2 : Int32) &&& 31).toUInt32).toInt32) &&& (255 : Int32)).toUInt32.toUInt16.toUInt32.toInt32)])) (fun _ k => XS.i2c X0.here hx rfl (hb hby d1_26) rfl k) ?_
      exact Goes.retN X0 hx e0 (t := .char) Bd.returns (by simp) hlk (hb hby d1_27) (by decide) (by decide) (⟨_, rfl, own_okm _, N0, rfl⟩)
theorem d3_0 : decode jdk_42_method_149_code 0 = .ok (.aload_n 0, 1) := by decide +kernel
theorem d3_1 : decode jdk_42_method_149_code 1 = .ok (.invokespecial 1, 3) := by decide +kernel
theorem own_w15 {Z : State} {a0 : Array Value} (hw : ∀ d ∈ tables_1, d.before a0 Z = true) : (Jvm.Cond.methodLink "java/lang/String" (1 : Nat) ({ cls := "java/lang/Object", name := "<init>", desc := "()V" } : Jvm.MethodName)).before a0 Z = true := hw _ (List.mem_of_getElem? (i := 15) rfl)
theorem own_w16 {Z : State} {a0 : Array Value} (hw : ∀ d ∈ tables_1, d.before a0 Z = true) : (Jvm.Cond.instanceMethod ({ cls := "java/lang/Object", name := "<init>", desc := "()V" } : Jvm.MethodName)).before a0 Z = true := hw _ (List.mem_of_getElem? (i := 16) rfl)
theorem own_w17 {Z : State} {a0 : Array Value} (hw : ∀ d ∈ tables_1, d.before a0 Z = true) : (Jvm.Cond.code ({ cls := "java/lang/Object", name := "<init>", desc := "()V" } : Jvm.MethodName) object_method_1_code (1 : Nat) (Option.none : Option Jvm.ClassFile.FieldType)).before a0 Z = true := hw _ (List.mem_of_getElem? (i := 17) rfl)
theorem d3_4 : decode jdk_42_method_149_code 4 = .ok (.iload_n 3, 1) := by decide +kernel
theorem d3_5 : decode jdk_42_method_149_code 5 = .ok (.ifCond .ne 22, 3) := by decide +kernel
theorem d3_8 : decode jdk_42_method_149_code 8 = .ok (.aload_n 0, 1) := by decide +kernel
theorem d3_9 : decode jdk_42_method_149_code 9 = .ok (.ldc 7, 2) := by decide +kernel
theorem own_w141 {Z : State} {a0 : Array Value} (hw : ∀ d ∈ tables_1, d.before a0 Z = true) : (Jvm.Cond.stringLink "java/lang/String" (7 : Nat) "").before a0 Z = true := hw _ (List.mem_of_getElem? (i := 141) rfl)
theorem own_w7 {Z : State} {a0 : Array Value} (hw : ∀ d ∈ tables_1, d.before a0 Z = true) : (Jvm.Cond.initialized "java/lang/String").before a0 Z = true := hw _ (List.mem_of_getElem? (i := 7) rfl)
theorem own_w6 {Z : State} {a0 : Array Value} (hw : ∀ d ∈ tables_1, d.before a0 Z = true) : (Jvm.Cond.instantiable "java/lang/String" (4 : Nat)).before a0 Z = true := hw _ (List.mem_of_getElem? (i := 6) rfl)
theorem own_w23 {Z : State} {a0 : Array Value} (hw : ∀ d ∈ tables_1, d.before a0 Z = true) : (Jvm.Cond.arrayClass Jvm.ClassFile.FieldType.byte).before a0 Z = true := hw _ (List.mem_of_getElem? (i := 23) rfl)
theorem own_w33 {Z : State} {a0 : Array Value} (hw : ∀ d ∈ tables_1, d.before a0 Z = true) : (Jvm.Cond.laysFinal "java/lang/String" "java/lang/String" "value" "[B").before a0 Z = true := hw _ (List.mem_of_getElem? (i := 33) rfl)
theorem own_w31 {Z : State} {a0 : Array Value} (hw : ∀ d ∈ tables_1, d.before a0 Z = true) : (Jvm.Cond.laysFinal "java/lang/String" "java/lang/String" "coder" "B").before a0 Z = true := hw _ (List.mem_of_getElem? (i := 31) rfl)
theorem own_w139 {Z : State} {a0 : Array Value} (hw : ∀ d ∈ tables_1, d.before a0 Z = true) : (Jvm.Cond.soleField "java/lang/String" "value").before a0 Z = true := hw _ (List.mem_of_getElem? (i := 139) rfl)
theorem own_w140 {Z : State} {a0 : Array Value} (hw : ∀ d ∈ tables_1, d.before a0 Z = true) : (Jvm.Cond.soleField "java/lang/String" "coder").before a0 Z = true := hw _ (List.mem_of_getElem? (i := 140) rfl)
theorem own_wS {Z : State} {a0 : Array Value} (hw : ∀ d ∈ tables_1, d.before a0 Z = true) : ∀ a ∈ Bundle.stringAtoms, a.before a0 Z = true := fun d hd => by
  simp only [Bundle.stringAtoms, List.mem_cons, List.not_mem_nil, or_false] at hd
  rcases hd with rfl | rfl | rfl | rfl | rfl | rfl | rfl
  · exact (own_w7 hw)
  · exact (own_w6 hw)
  · exact (own_w23 hw)
  · exact (own_w33 hw)
  · exact (own_w31 hw)
  · exact (own_w139 hw)
  · exact (own_w140 hw)
theorem d3_11 : decode jdk_42_method_149_code 11 = .ok (.getfield 9, 3) := by decide +kernel
theorem own_w32 {Z : State} {a0 : Array Value} (hw : ∀ d ∈ tables_1, d.before a0 Z = true) : (Jvm.Cond.fieldLink "java/lang/String" (9 : Nat) "java/lang/String" "value" "[B").before a0 Z = true := hw _ (List.mem_of_getElem? (i := 32) rfl)
theorem d3_14 : decode jdk_42_method_149_code 14 = .ok (.putfield 9, 3) := by decide +kernel
theorem d3_17 : decode jdk_42_method_149_code 17 = .ok (.aload_n 0, 1) := by decide +kernel
theorem d3_18 : decode jdk_42_method_149_code 18 = .ok (.ldc 7, 2) := by decide +kernel
theorem d3_20 : decode jdk_42_method_149_code 20 = .ok (.getfield 15, 3) := by decide +kernel
theorem own_w30 {Z : State} {a0 : Array Value} (hw : ∀ d ∈ tables_1, d.before a0 Z = true) : (Jvm.Cond.fieldLink "java/lang/String" (15 : Nat) "java/lang/String" "coder" "B").before a0 Z = true := hw _ (List.mem_of_getElem? (i := 30) rfl)
theorem d3_23 : decode jdk_42_method_149_code 23 = .ok (.putfield 15, 3) := by decide +kernel
theorem d3_26 : decode jdk_42_method_149_code 26 = .ok (.return_, 1) := by decide +kernel
theorem pn_String : plainName "java/lang/String" = true := by first | (simp [plainName, overriddenIn]; done) | decide +kernel
theorem ef_rmSJ_0 (m : MethodId) (x0 : Addr) (x1 : Addr) (x2 : Int32) (x3 : Int32) : entryFrame m #[(.ref x0), (.ref x1), (.int x2), (.int x3), .null] 6 = mkF m 0 #[.val (.ref x0), .val (.ref x1), .val (.int x2), .val (.int x3), .val .null, .unset] [] := by first | (simp [entryFrame, mkF, argsToLocals, Value.category]; done) | rfl
def QSJ_0 (Z : State) (a0r : Addr) (ca : Addr) (kc : ClassId) (cs : Int32) (h0 : Heap) (n0 : Nat) (v : Option Value) (h : Heap) (L : List Loc) : Prop := v = none ∧ Fr n0 L ∧ Keep h0 h [a0r] ∧ Exa Z h a0r "java/lang/String" ∧ ∃ (vb : Addr) (kv : ClassId), Fld Z h a0r "java/lang/String" "value" "[B" (.ref vb) ∧ Fld Z h a0r "java/lang/String" "coder" "B" (.int (0 : Int32)) ∧ Arv Z h vb kv .byte (0 : Int32) [] (.int (0 : Int32))
set_option maxRecDepth 65536 in
set_option maxHeartbeats 40000000 in
theorem rmSJ_0 (l : Launch) (Z : State) (a0 : Array Value) (hw : ∀ d ∈ tables_1, d.before a0 Z = true) (ws : List Jvm.Cond) (a0r : Addr) (ca : Addr) (kc : ClassId) (cs : Int32) (h0 : Heap) (n0 : Nat) (O0 : Old Z n0 h0) (Er : Exa Z h0 a0r "java/lang/String") (gr : n0 ≤ a0r) (Fr_value : Fld Z h0 a0r "java/lang/String" "value" "[B" .null) (Fr_coder : Fld Z h0 a0r "java/lang/String" "coder" "B" (.int (0 : Int32))) (Vc : Arv Z h0 ca kc .char (0 : Int32) [] (.int (0 : Int32))) (Sc : Sta Z h0 "java/lang/String" "COMPACT_STRINGS" "Z" (.int cs)) (hcs : ¬ cs = (0 : Int32)) :
    MetFree l (⟨"java/lang/String", "<init>", "([CIILjava/lang/Void;)V"⟩ : MethodName) (head1 (Jvm.Cond.code (⟨"java/lang/String", "<init>", "([CIILjava/lang/Void;)V"⟩ : MethodName) jdk_42_method_149_code 6 none :: ws) ({ frames := 1, cells := 4, slots := 8, locals := 12 } : Room)) (fun a U => a = #[(.ref a0r), (.ref ca), (.int 0), (.int 0), .null] ∧ Z.Warmed39 U.vm ∧ U.heap = h0 ∧ CHv Z own_EL U.vm h0 ∧ Safe Z own_EL U.vm h0 a0r) (fun _ _ _ _ _ => True) (fun _ U o U' => ∃ v L, o = .returned v ∧ QSJ_0 Z a0r ca kc cs h0 n0 v U'.heap L ∧ CHr Z own_EL U.vm U.heap U'.vm U'.heap ∧ ReturnedEndW U o U' L ({ frames := 1, cells := 4, slots := 8, locals := 12 } : Room).cells ({ frames := 1, cells := 4, slots := 8, locals := 12 } : Room).slots) := by
  refine MetFree.of_bodySF (plainFor_of_name pn_String) hisR ?_
  intro p e s m args below meth c s₁ Bd hml0 hP hK
  obtain ⟨rfl, hZ, hh, hH0, Sf0_a0r⟩ := hP
  have hx := Bd.exec
  have hby := Bd.bytes
  have hlk : meth.locks = false := BodyLoose.notSynchronized Bd
  have hml : c.maxLocals = 6 := hml0
  have hown : s.vm.findClass "java/lang/String" = some m.cls := findClass_of_methodNamed Bd.named
  have hnm := (name_of_methodNamed Bd.named Bd.method).1
  have X0 : Stand p l e ({ frames := 1, cells := 4, slots := 8, locals := 12 } : Room) (s.setVm s.vm) m #[(.ref a0r), (.ref ca), (.int 0), (.int 0), .null] below meth c s₁ [] 0 0 := Stand.of_body Bd
  have e0 : s₁.heap = h0 := by rw [← hh, Bd.state]; rfl
  have N0 := Fr.nil n0
  have hS0 : s.Since s.vm h0.size := (State.WarmedH.refl s).since _
  show GoesH p e below s Z own_EL (QSJ_0 Z a0r ca kc cs h0 n0) ({ frames := 1, cells := 4, slots := 8, locals := 12 } : Room).cells ({ frames := 1, cells := 4, slots := 8, locals := 12 } : Room).slots (s₁.setTop (entryFrame m #[(.ref a0r), (.ref ca), (.int 0), (.int 0), .null] 6))
  refine GoesH.enter (g' := (mkF m 0 #[.val (.ref a0r), .val (.ref ca), .val (.int 0), .val (.int 0), .val .null, .unset] [])) (ef_rmSJ_0 m a0r ca ((0 : Int32)) ((0 : Int32))) ?_
  refine GoesH.step (fun _ k => pw_aloadN X0.here hx (hb hby d3_0) rfl rfl _ k) ?_
  obtain ⟨T1, X1, e1, st1⟩ := initO X0 hx hZ hown (own_w15 hw) (own_w16 hw) (own_w17 hw) e0 (g := (mkF m 1 #[.val (.ref a0r), .val (.ref ca), .val (.int 0), .val (.int 0), .val .null, .unset] [(.ref a0r)])) rfl (by rw [hml]; rfl) rfl (hb hby d3_1) (by decide) (W := 0) (by show 2 * 0 + _ ≤ _; exact Nat.le_of_eq rfl) (by decide)
  refine GoesH.step (B := T1.setTop (mkF m 4 #[.val (.ref a0r), .val (.ref ca), .val (.int 0), .val (.int 0), .val .null, .unset] [])) st1 ?_
  refine GoesH.step (fun _ k => pw_iloadN X1.here hx (hb hby d3_4) rfl _ (pw_ifNo X1.here hx (hb hby d3_5) ((if0 _ _).trans (teq (by decide)).2) _ (pw_aloadN X1.here hx (hb hby d3_8) rfl rfl _ k))) ?_
  obtain ⟨b2, T2, h2, k2, v2, c2, X2, e2, E2, hS2, hk2, hZ2, hown2, Ea2, Fc2, Fv2, Va2, la2, lb2, H2, I2, Sf2, st2⟩ := ldcCH X1 hx hZ hown (own_w141 hw) (own_wS hw) e1 hS0 (Nat.le_refl _) (own_EW hw) (List.mem_of_getElem? (i := 0) rfl) (CHr.refl hH0).1 (vs := []) (z := (0 : Int32)) ⟨by decide, by decide⟩ (by decide) (by decide) (g := (mkF m 9 #[.val (.ref a0r), .val (.ref ca), .val (.int 0), .val (.int 0), .val .null, .unset] [(.ref a0r)])) rfl (hb hby d3_9) (n := 0) (by decide) (by decide) (by decide) (by decide)
  have Sf3 := CHr.safe H2 Er.lt Sf0_a0r
  have O_2 := O0.ext E2
  have CH2 := ((CHr.refl hH0).trans H2)
  have K_2 := (Keep.refl h0 [a0r]).ext E2
  have nl2_a0r := Sf2 _ Sf3
  refine GoesH.step (B := T2.setTop (mkF m 11 #[.val (.ref a0r), .val (.ref ca), .val (.int 0), .val (.int 0), .val .null, .unset] [(.ref b2), (.ref a0r)])) st2 ?_
  obtain ⟨T4, X4, e4, st4⟩ := getF X2 hx hZ2 hown2 (host := "") (Or.inl (own_w32 hw)) Via.refl e2 Fv2 (g := (mkF m 11 #[.val (.ref a0r), .val (.ref ca), .val (.int 0), .val (.int 0), .val .null, .unset] [(.ref b2), (.ref a0r)])) rfl rfl (hb hby d3_11)
  refine GoesH.step (B := T4.setTop (mkF m 14 #[.val (.ref a0r), .val (.ref ca), .val (.int 0), .val (.int 0), .val .null, .unset] [(.ref v2), (.ref a0r)])) st4 ?_
  have f5 := (Er.ext E2)
  have f6 := (Fr_value.ext E2)
  obtain ⟨T7, h7, X7, e7, W7, st7⟩ := putF X4 hx hZ2 hown2 (host := "") (Or.inl (own_w32 hw)) Via.refl e4 f6 f5 (Or.inr ⟨(own_w33 hw), rfl, hnm⟩) (own_w6 hw) (ty := (.array .byte)) (by decide) rfl rfl (g := (mkF m 14 #[.val (.ref a0r), .val (.ref ca), .val (.int 0), .val (.int 0), .val .null, .unset] [(.ref v2), (.ref a0r)])) rfl rfl (hb hby d3_14)
  have Sf8 := Safe.wr W7 Sf3 CH2.1 Sf3
  have CH9 := CH2.trans (CHr.wr W7 Sf3 CH2.1)
  have Fw7 := f6.same W7
  have N7 := Fr.snoc X7 N0 gr
  have O_7 := O_2.wr W7 gr
  have K_7 := K_2.wr W7 (Or.inl (List.mem_of_getElem? (i := 0) rfl))
  refine GoesH.step (B := T7.setTop (mkF m 17 #[.val (.ref a0r), .val (.ref ca), .val (.int 0), .val (.int 0), .val .null, .unset] [])) st7 ?_
  refine GoesH.step (fun _ k => pw_aloadN X7.here hx (hb hby d3_17) rfl rfl _ k) ?_
  obtain ⟨b10, T10, h10, k10, v10, c10, X10, e10, E10, hS10, hk10, hZ10, hown10, Ea10, Fc10, Fv10, Va10, la10, lb10, H10, I10, Sf10, st10⟩ := ldcCH X7 hx hZ2 hown2 (own_w141 hw) (own_wS hw) e7 hS2 (Nat.le_trans hk2 (Nat.le_of_eq W7.size.symm)) (own_EW hw) (List.mem_of_getElem? (i := 0) rfl) CH9.1 (vs := []) (z := (0 : Int32)) ⟨by decide, by decide⟩ (by decide) (by decide) (g := (mkF m 18 #[.val (.ref a0r), .val (.ref ca), .val (.int 0), .val (.int 0), .val .null, .unset] [(.ref a0r)])) rfl (hb hby d3_18) (n := 0) (by decide) (by decide) (by decide) (by decide)
  have f12 := (f5.wr W7)
  have Sf11 := CHr.safe H10 f12.lt Sf8
  have O_10 := O_7.ext E10
  have CH10 := (CH9.trans H10)
  have K_10 := K_7.ext E10
  have nl10_a0r := Sf10 _ Sf11
  refine GoesH.step (B := T10.setTop (mkF m 20 #[.val (.ref a0r), .val (.ref ca), .val (.int 0), .val (.int 0), .val .null, .unset] [(.ref b10), (.ref a0r)])) st10 ?_
  obtain ⟨T13, X13, e13, st13⟩ := getF X10 hx hZ10 hown10 (host := "") (Or.inl (own_w30 hw)) Via.refl e10 Fc10 (g := (mkF m 20 #[.val (.ref a0r), .val (.ref ca), .val (.int 0), .val (.int 0), .val .null, .unset] [(.ref b10), (.ref a0r)])) rfl rfl (hb hby d3_20)
  refine GoesH.step (B := T13.setTop (mkF m 23 #[.val (.ref a0r), .val (.ref ca), .val (.int 0), .val (.int 0), .val .null, .unset] [(.int 0), (.ref a0r)])) st13 ?_
  have f14 := (f12.ext E10)
  have f15 := (((Fr_coder.ext E2).other W7 (Or.inr (slot_ne (Or.inr (own_w31 hw)) (Or.inr (own_w33 hw)) (by decide) (t := .byte) (t' := (.array .byte)) (by decide) (by decide)))).ext E10)
  obtain ⟨T16, h16, X16, e16, W16, st16⟩ := putFN X13 hx hZ10 hown10 (own_w30 hw) Via.refl e13 f15 f14 (Or.inr ⟨(own_w31 hw), rfl, hnm⟩) (own_w6 hw) (ty := .byte) (v' := (.int 0)) (by decide) rfl (by decide) (g := (mkF m 23 #[.val (.ref a0r), .val (.ref ca), .val (.int 0), .val (.int 0), .val .null, .unset] [(.int 0), (.ref a0r)])) rfl rfl (hb hby d3_23)
  have Sf17 := Safe.wr W16 Sf11 CH10.1 Sf11
  have CH18 := CH10.trans (CHr.wr W16 Sf11 CH10.1)
  have Fw16 := f15.same W16
  have N16 := Fr.snoc X16 N7 gr
  have O_16 := O_10.wr W16 gr
  have K_16 := K_10.wr W16 (Or.inl (List.mem_of_getElem? (i := 0) rfl))
  refine GoesH.step (B := T16.setTop (mkF m 26 #[.val (.ref a0r), .val (.ref ca), .val (.int 0), .val (.int 0), .val .null, .unset] [])) st16 ?_
  have f19 := (f14.wr W16)
  have f20 := ((Fw7.ext E10).other W16 (Or.inr (slot_ne (Or.inr (own_w33 hw)) (Or.inr (own_w31 hw)) (by decide) (t := (.array .byte)) (t' := .byte) (by decide) (by decide))))
  have f21 := (((Va2.other W7 (Ne.symm nl2_a0r.2)).ext E10).other W16 (Ne.symm nl2_a0r.2))
  exact GoesH.retV X16 hS10 (Nat.le_trans hk10 (Nat.le_of_eq W16.size.symm)) hZ10 (own_EW hw) (by rw [show s.heap = h0 from hh]; exact CH18) hx e16 Bd.returns hlk (hb hby d3_26) (by decide) (by decide) (⟨rfl, N16, K_16, f19, v2, c2, f20, Fw16, f21⟩)
theorem d2_0 : decode jdk_42_method_3_code 0 = .ok (.aload_n 0, 1) := by decide +kernel
theorem d2_1 : decode jdk_42_method_3_code 1 = .ok (.aload_n 1, 1) := by decide +kernel
theorem d2_2 : decode jdk_42_method_3_code 2 = .ok (.iconst 0, 1) := by decide +kernel
theorem d2_3 : decode jdk_42_method_3_code 3 = .ok (.aload_n 1, 1) := by decide +kernel
theorem d2_4 : decode jdk_42_method_3_code 4 = .ok (.arraylength, 1) := by decide +kernel
theorem d2_5 : decode jdk_42_method_3_code 5 = .ok (.aconst_null, 1) := by decide +kernel
theorem d2_6 : decode jdk_42_method_3_code 6 = .ok (.invokespecial 27, 3) := by decide +kernel
theorem own_w11 {Z : State} {a0 : Array Value} (hw : ∀ d ∈ tables_1, d.before a0 Z = true) : (Jvm.Cond.methodLink "java/lang/String" (27 : Nat) ({ cls := "java/lang/String", name := "<init>", desc := "([CIILjava/lang/Void;)V" } : Jvm.MethodName)).before a0 Z = true := hw _ (List.mem_of_getElem? (i := 11) rfl)
theorem own_w14 {Z : State} {a0 : Array Value} (hw : ∀ d ∈ tables_1, d.before a0 Z = true) : (Jvm.Cond.code ({ cls := "java/lang/String", name := "<init>", desc := "([CIILjava/lang/Void;)V" } : Jvm.MethodName) jdk_42_method_149_code (6 : Nat) (Option.none : Option Jvm.ClassFile.FieldType)).before a0 Z = true := hw _ (List.mem_of_getElem? (i := 14) rfl)
theorem pd_0 : parseMethodDescriptor "([CIILjava/lang/Void;)V" = some ⟨[(.array .char), .int, .int, (.object "java/lang/Void")], none⟩ := by decide +kernel
theorem own_w12 {Z : State} {a0 : Array Value} (hw : ∀ d ∈ tables_1, d.before a0 Z = true) : (Jvm.Cond.instanceMethod ({ cls := "java/lang/String", name := "<init>", desc := "([CIILjava/lang/Void;)V" } : Jvm.MethodName)).before a0 Z = true := hw _ (List.mem_of_getElem? (i := 12) rfl)
theorem d2_9 : decode jdk_42_method_3_code 9 = .ok (.return_, 1) := by decide +kernel
theorem ef_rmSI_0 (m : MethodId) (x0 : Addr) (x1 : Addr) : entryFrame m #[(.ref x0), (.ref x1)] 2 = mkF m 0 #[.val (.ref x0), .val (.ref x1)] [] := by first | (simp [entryFrame, mkF, argsToLocals, Value.category]; done) | rfl
def QSI_0 (Z : State) (a0r : Addr) (ca : Addr) (kc : ClassId) (cs : Int32) (h0 : Heap) (n0 : Nat) (v : Option Value) (h : Heap) (L : List Loc) : Prop := v = none ∧ Fr n0 L ∧ Keep h0 h [a0r] ∧ Exa Z h a0r "java/lang/String" ∧ ∃ (vb : Addr) (kv : ClassId), Fld Z h a0r "java/lang/String" "value" "[B" (.ref vb) ∧ Fld Z h a0r "java/lang/String" "coder" "B" (.int (0 : Int32)) ∧ Arv Z h vb kv .byte (0 : Int32) [] (.int (0 : Int32))
set_option maxRecDepth 65536 in
set_option maxHeartbeats 40000000 in
theorem rmSI_0 (l : Launch) (Z : State) (a0 : Array Value) (hw : ∀ d ∈ tables_1, d.before a0 Z = true) (ws : List Jvm.Cond) (a0r : Addr) (ca : Addr) (kc : ClassId) (cs : Int32) (h0 : Heap) (n0 : Nat) (O0 : Old Z n0 h0) (Er : Exa Z h0 a0r "java/lang/String") (gr : n0 ≤ a0r) (Fr_value : Fld Z h0 a0r "java/lang/String" "value" "[B" .null) (Fr_coder : Fld Z h0 a0r "java/lang/String" "coder" "B" (.int (0 : Int32))) (Vc : Arv Z h0 ca kc .char (0 : Int32) [] (.int (0 : Int32))) (Sc : Sta Z h0 "java/lang/String" "COMPACT_STRINGS" "Z" (.int cs)) (hcs : ¬ cs = (0 : Int32)) :
    MetFree l (⟨"java/lang/String", "<init>", "([C)V"⟩ : MethodName) (head1 (Jvm.Cond.code (⟨"java/lang/String", "<init>", "([C)V"⟩ : MethodName) jdk_42_method_3_code 2 none :: ws) ({ frames := 2, cells := 4, slots := 8, locals := 29 } : Room)) (fun a U => a = #[(.ref a0r), (.ref ca)] ∧ Z.Warmed39 U.vm ∧ U.heap = h0 ∧ CHv Z own_EL U.vm h0 ∧ Safe Z own_EL U.vm h0 a0r) (fun _ _ _ _ _ => True) (fun _ U o U' => ∃ v L, o = .returned v ∧ QSI_0 Z a0r ca kc cs h0 n0 v U'.heap L ∧ CHr Z own_EL U.vm U.heap U'.vm U'.heap ∧ ReturnedEndW U o U' L ({ frames := 2, cells := 4, slots := 8, locals := 29 } : Room).cells ({ frames := 2, cells := 4, slots := 8, locals := 29 } : Room).slots) := by
  refine MetFree.of_bodySF (plainFor_of_name pn_String) hisR ?_
  intro p e s m args below meth c s₁ Bd hml0 hP hK
  obtain ⟨rfl, hZ, hh, hH0, Sf0_a0r⟩ := hP
  have hx := Bd.exec
  have hby := Bd.bytes
  have hlk : meth.locks = false := BodyLoose.notSynchronized Bd
  have hml : c.maxLocals = 2 := hml0
  have hown : s.vm.findClass "java/lang/String" = some m.cls := findClass_of_methodNamed Bd.named
  have hnm := (name_of_methodNamed Bd.named Bd.method).1
  have X0 : Stand p l e ({ frames := 2, cells := 4, slots := 8, locals := 29 } : Room) (s.setVm s.vm) m #[(.ref a0r), (.ref ca)] below meth c s₁ [] 0 0 := Stand.of_body Bd
  have e0 : s₁.heap = h0 := by rw [← hh, Bd.state]; rfl
  have N0 := Fr.nil n0
  have hS0 : s.Since s.vm h0.size := (State.WarmedH.refl s).since _
  show GoesH p e below s Z own_EL (QSI_0 Z a0r ca kc cs h0 n0) ({ frames := 2, cells := 4, slots := 8, locals := 29 } : Room).cells ({ frames := 2, cells := 4, slots := 8, locals := 29 } : Room).slots (s₁.setTop (entryFrame m #[(.ref a0r), (.ref ca)] 2))
  refine GoesH.enter (g' := (mkF m 0 #[.val (.ref a0r), .val (.ref ca)] [])) (ef_rmSI_0 m a0r ca) ?_
  refine GoesH.step (fun _ k => pw_aloadN X0.here hx (hb hby d2_0) rfl rfl _ (pw_aloadN X0.here hx (hb hby d2_1) rfl rfl _ (pw_iconst X0.here hx (v := (0 : Int32)) (hb hby d2_2) rfl _ (pw_aloadN X0.here hx (hb hby d2_3) rfl rfl _ k)))) ?_
  obtain ⟨c1, Ar1, -, Sz1, Nn1, -, -⟩ := id Vc
  have len1 := X0.arraylength hx (by rw [e0]; exact Ar1.1) (State.isArrayOf_alike hZ.alike Ar1.2.1) (g := (mkF m 4 #[.val (.ref a0r), .val (.ref ca)] [(.ref ca), (.int 0), (.ref ca), (.ref a0r)])) rfl rfl (hb hby d2_4)
  rw [len_of Sz1 Nn1] at len1
  refine GoesH.step (B := s₁.setTop (mkF m 5 #[.val (.ref a0r), .val (.ref ca)] [(.int 0), (.int 0), (.ref ca), (.ref a0r)])) len1 ?_
  refine GoesH.step (fun _ k => pw_aconstNull X0.here hx (hb hby d2_5) _ k) ?_
  obtain ⟨_, vw2, ⟨T2, qL2, qk2, qn2⟩, -, Xr2, S22, sz2, ⟨Lc2, hQ2, ql2, qy2, qz2, Hc2⟩, st2⟩ := X0.specialBackS hx (y := (⟨"java/lang/String", "<init>", "([CIILjava/lang/Void;)V"⟩ : MethodName)) rfl hown (mvT hZ (own_w11 hw)) (mvT hZ (own_w12 hw)) (mvT hZ (own_w14 hw)) (by decide) (backOfSHs (W := 0) (rmSJ_0 l Z a0 hw [] a0r ca kc cs h0 n0 O0 Er gr Fr_value Fr_coder Vc Sc hcs) hZ (own_w14 hw) (own_w7 hw) (by decide) (by decide) (own_EW hw) (CHr.refl hH0).1 Er.lt Sf0_a0r) (g := (mkF m 6 #[.val (.ref a0r), .val (.ref ca)] [.null, (.int 0), (.int 0), (.ref ca), (.ref a0r)])) rfl (by rw [hml]; rfl) (Steps.refl _) (a := a0r) (argsL := [(.ref ca), (.int 0), (.int 0), .null]) (rest := []) (lenOf pd_0 rfl) rfl (by show 2 * 0 + _ ≤ _; exact Nat.le_of_eq rfl) (hb hby d2_6) (fun _ _ => ⟨rfl, e0, (by decide : 0 + 4 ≤ _), (by decide : 0 + 8 ≤ _)⟩)
  dsimp only [Pt.U, Pt.locs, Pt.cells, Pt.slots] at Xr2 S22 sz2 ql2 qy2 qz2 st2 hQ2 Hc2
  rw [ql2, qy2, qz2] at Xr2
  obtain ⟨X2, hS2, hZ2, hown2⟩ := rebS hS0 (by rw [e0]; exact (Nat.le_refl _)) Xr2 S22 sz2 hZ hown
  have CHc2 := (CHr.refl hH0).trans Hc2
  obtain ⟨rfl, Nq2, Kp2, Ex2, sv2, sk2, Fsv2, Fsc2, Vsv2⟩ := hQ2
  have Sf3 := CHr.safe Hc2 Er.lt Sf0_a0r
  have O_2 := O0.keep Kp2 (allS gr all0)
  have K_2 := (Keep.refl h0 [a0r]).trans Kp2 (allS (P := fun x => x ∈ _ ∨ _) (Or.inl (List.mem_of_getElem? (i := 0) rfl)) all0)
  have N2 := Fr.app N0 Nq2
  refine GoesH.via (B := T2.setTop (mkF m 9 #[.val (.ref a0r), .val (.ref ca)] [])) st2 ?_
  exact GoesH.retV X2 hS2 (Nat.le_refl _) hZ2 (own_EW hw) (by rw [show s.heap = h0 from hh]; exact CHc2) hx rfl Bd.returns hlk (hb hby d2_9) (by decide) (by decide) (⟨rfl, N2, K_2, Ex2, sv2, sk2, Fsv2, Fsc2, Vsv2⟩)
theorem d6_0 : decode jdk_52_method_21_code 0 = .ok (.iconst 0, 1) := by decide +kernel
theorem d6_1 : decode jdk_52_method_21_code 1 = .ok (.istore 5, 2) := by decide +kernel
theorem d6_3 : decode jdk_52_method_21_code 3 = .ok (.iload 5, 2) := by decide +kernel
theorem d6_5 : decode jdk_52_method_21_code 5 = .ok (.iload 4, 2) := by decide +kernel
theorem d6_7 : decode jdk_52_method_21_code 7 = .ok (.if_icmp .ge 37, 3) := by decide +kernel
theorem d6_10 : decode jdk_52_method_21_code 10 = .ok (.aload_n 0, 1) := by decide +kernel
theorem d6_11 : decode jdk_52_method_21_code 11 = .ok (.iload_n 1, 1) := by decide +kernel
theorem d6_12 : decode jdk_52_method_21_code 12 = .ok (.caload, 1) := by decide +kernel
theorem d6_13 : decode jdk_52_method_21_code 13 = .ok (.istore 6, 2) := by decide +kernel
theorem d6_15 : decode jdk_52_method_21_code 15 = .ok (.iload 6, 2) := by decide +kernel
theorem d6_17 : decode jdk_52_method_21_code 17 = .ok (.sipush 255, 3) := by decide +kernel
theorem d6_20 : decode jdk_52_method_21_code 20 = .ok (.if_icmp .le 6, 3) := by decide +kernel
theorem d6_26 : decode jdk_52_method_21_code 26 = .ok (.aload_n 2, 1) := by decide +kernel
theorem d6_27 : decode jdk_52_method_21_code 27 = .ok (.iload_n 3, 1) := by decide +kernel
theorem d6_28 : decode jdk_52_method_21_code 28 = .ok (.iload 6, 2) := by decide +kernel
theorem d6_30 : decode jdk_52_method_21_code 30 = .ok (.i2b, 1) := by decide +kernel
theorem d6_31 : decode jdk_52_method_21_code 31 = .ok (.bastore, 1) := by decide +kernel
theorem d6_32 : decode jdk_52_method_21_code 32 = .ok (.iinc 1 1, 3) := by decide +kernel
theorem d6_35 : decode jdk_52_method_21_code 35 = .ok (.iinc 3 1, 3) := by decide +kernel
theorem d6_38 : decode jdk_52_method_21_code 38 = .ok (.iinc 5 1, 3) := by decide +kernel
theorem d6_41 : decode jdk_52_method_21_code 41 = .ok (.goto (-38), 3) := by decide +kernel
theorem d6_44 : decode jdk_52_method_21_code 44 = .ok (.iload 4, 2) := by decide +kernel
theorem d6_46 : decode jdk_52_method_21_code 46 = .ok (.ireturn, 1) := by decide +kernel
theorem pn_StringUTF16 : plainName "java/lang/StringUTF16" = true := by first | (simp [plainName, overriddenIn]; done) | decide +kernel
theorem ef_rmC5_1 (m : MethodId) (x0 : Addr) (x1 : Int32) (x2 : Addr) (x3 : Int32) (x4 : Int32) : entryFrame m #[(.ref x0), (.int x1), (.ref x2), (.int x3), (.int x4)] 7 = mkF m 0 #[.val (.ref x0), .val (.int x1), .val (.ref x2), .val (.int x3), .val (.int x4), .unset, .unset] [] := by first | (simp [entryFrame, mkF, argsToLocals, Value.category]; done) | rfl
def QC5_1 (Z : State) (ca : Addr) (kc : ClassId) (bb : Addr) (kb : ClassId) (ch0 : Int32) (h0 : Heap) (n0 : Nat) (v : Option Value) (h : Heap) (L : List Loc) : Prop := v = some (.int (1 : Int32)) ∧ Fr n0 L ∧ Keep h0 h [bb] ∧ Arv Z h bb kb .byte (1 : Int32) [.int (own_b ch0)] (.int (0 : Int32))
set_option maxRecDepth 65536 in
set_option maxHeartbeats 40000000 in
theorem rmC5_1 (l : Launch) (Z : State) (a0 : Array Value) (hw : ∀ d ∈ tables_1, d.before a0 Z = true) (ws : List Jvm.Cond) (ca : Addr) (kc : ClassId) (bb : Addr) (kb : ClassId) (ch0 : Int32) (h0 : Heap) (n0 : Nat) (O0 : Old Z n0 h0) (Vc : Arv Z h0 ca kc .char (1 : Int32) [.int ch0] (.int (0 : Int32))) (Vb : Arv Z h0 bb kb .byte (1 : Int32) [.int (0 : Int32)] (.int (0 : Int32))) (gb : n0 ≤ bb) (ncb : ca ≠ bb) (hk0 : own_ok ch0) :
    MetFree l (⟨"java/lang/StringUTF16", "compress", "([CI[BII)I"⟩ : MethodName) (head1 (Jvm.Cond.code (⟨"java/lang/StringUTF16", "compress", "([CI[BII)I"⟩ : MethodName) jdk_52_method_21_code 7 (some .int) :: ws) ({ frames := 0, cells := 0, slots := 0, locals := 0 } : Room)) (fun a U => a = #[(.ref ca), (.int 0), (.ref bb), (.int 0), (.int 1)] ∧ Z.Warmed39 U.vm ∧ U.heap = h0) (fun _ _ _ _ _ => True) (fun _ U o U' => ∃ v L, o = .returned v ∧ QC5_1 Z ca kc bb kb ch0 h0 n0 v U'.heap L ∧ FrameEnd U o U' L ({ frames := 0, cells := 0, slots := 0, locals := 0 } : Room).cells ({ frames := 0, cells := 0, slots := 0, locals := 0 } : Room).slots) := by
  refine MetFree.of_bodySF (plainFor_of_name pn_StringUTF16) hisR ?_
  intro p e s m args below meth c s₁ Bd hml0 hP hK
  obtain ⟨rfl, hZ, hh⟩ := hP
  have hx := Bd.exec
  have hby := Bd.bytes
  have hlk : meth.locks = false := BodyLoose.notSynchronized Bd
  have hml : c.maxLocals = 7 := hml0
  have hown : s.vm.findClass "java/lang/StringUTF16" = some m.cls := findClass_of_methodNamed Bd.named
  have hnm := (name_of_methodNamed Bd.named Bd.method).1
  have X0 : Stand p l e ({ frames := 0, cells := 0, slots := 0, locals := 0 } : Room) s m #[(.ref ca), (.int 0), (.ref bb), (.int 0), (.int 1)] below meth c s₁ [] 0 0 := Stand.of_body Bd
  have e0 : s₁.heap = h0 := by rw [← hh, Bd.state]; rfl
  have N0 := Fr.nil n0
  show Goes p e below s (QC5_1 Z ca kc bb kb ch0 h0 n0) ({ frames := 0, cells := 0, slots := 0, locals := 0 } : Room).cells ({ frames := 0, cells := 0, slots := 0, locals := 0 } : Room).slots (s₁.setTop (entryFrame m #[(.ref ca), (.int 0), (.ref bb), (.int 0), (.int 1)] 7))
  refine Goes.enter (g' := (mkF m 0 #[.val (.ref ca), .val (.int 0), .val (.ref bb), .val (.int 0), .val (.int 1), .unset, .unset] [])) (ef_rmC5_1 m ca ((0 : Int32)) bb ((0 : Int32)) ((1 : Int32))) ?_
  refine Goes.step (fun _ k => pw_iconst X0.here hx (v := (0 : Int32)) (hb hby d6_0) rfl _ (pw_istore X0.here hx (l' := #[.val (.ref ca), .val (.int 0), .val (.ref bb), .val (.int 0), .val (.int 1), .val (.int 0), .unset]) (hb hby d6_1) rfl _ (pw_iload X0.here hx (hb hby d6_3) rfl _ (pw_iload X0.here hx (hb hby d6_5) rfl _ (pw_icmpNo X0.here hx (hb hby d6_7) (tlt (by decide)).2.1 _ (pw_aloadN X0.here hx (hb hby d6_10) rfl rfl _ k)))))) ?_
  refine Goes.step (fun _ k => pw_iloadN X0.here hx (hb hby d6_11) rfl _ k) ?_
  obtain ⟨c1, Ar1, -, Sz1, Nn1, Hs1, -⟩ := id Vc
  have hin1 : ¬ ((0 : Int32) < 0 ∨ c1.slots.size ≤ ((0 : Int32)).toNatClampNeg) := inb_of Sz1 ⟨by decide, by decide⟩
  refine Goes.step (B := s₁.setTop (mkF m 13 #[.val (.ref ca), .val (.int 0), .val (.ref bb), .val (.int 0), .val (.int 1), .val (.int 0), .unset] [(.int ch0)])) (X0.caload hx (j := (0 : Int32)) (v := (.int ch0)) (by rw [e0]; exact Ar1.1) (State.isArrayOf_alike hZ.alike Ar1.2.1) Ar1.2.2 hin1 (Has.at Hs1 hin1 rfl) (g := (mkF m 12 #[.val (.ref ca), .val (.int 0), .val (.ref bb), .val (.int 0), .val (.int 1), .val (.int 0), .unset] [(.int 0), (.ref ca)])) rfl rfl (hb hby d6_12)) ?_
  refine Goes.step (fun _ k => pw_istore X0.here hx (l' := #[.val (.ref ca), .val (.int 0), .val (.ref bb), .val (.int 0), .val (.int 1), .val (.int 0), .val (.int ch0)]) (hb hby d6_13) rfl _ (pw_iload X0.here hx (hb hby d6_15) rfl _ (pw_sipush X0.here hx (v := (255 : Int32)) (hb hby d6_17) rfl _ (pw_icmpYes X0.here hx (pc' := 26) (hb hby d6_20) (flt (own_le hk0)).2.2.2 (by decide) (by decide) _ (pw_aloadN X0.here hx (hb hby d6_26) rfl rfl _ (pw_iloadN X0.here hx (hb hby d6_27) rfl _ k)))))) ?_
  refine Goes.step (fun _ k => pw_iload X0.here hx (hb hby d6_28) rfl _ k) ?_
  refine Goes.step (B := s₁.setTop (mkF m 31 #[.val (.ref ca), .val (.int 0), .val (.ref bb), .val (.int 0), .val (.int 1), .val (.int 0), .val (.int ch0)] [(.int (ch0.toInt8.toInt32)), (.int 0), (.ref bb)])) (fun _ k => XS.i2b X0.here hx rfl (hb hby d6_30) rfl k) ?_
  obtain ⟨c2, Ar2, q2, Sz2, Nn2, Hs2, Gs2⟩ := id Vb
  have hin2 : ¬ ((0 : Int32) < 0 ∨ c2.slots.size ≤ ((0 : Int32)).toNatClampNeg) := inb_of Sz2 ⟨by decide, by decide⟩
  obtain ⟨T2, h2, X2, e2, W2, st2⟩ := stB X0 hx hZ e0 Ar2 (j := (0 : Int32)) hin2 (g := (mkF m 31 #[.val (.ref ca), .val (.int 0), .val (.ref bb), .val (.int 0), .val (.int 1), .val (.int 0), .val (.int ch0)] [(.int (ch0.toInt8.toInt32)), (.int 0), (.ref bb)])) rfl rfl (hb hby d6_31)
  have V2 : Arv Z h2 bb kb .byte (1 : Int32) [(.int (nar .byte (ch0.toInt8.toInt32)))] (.int 0) := Arv.set Ar2 q2 Sz2 Nn2 Hs2 Gs2 (fits_nar_byte _) W2 0 rfl (Nat.le_of_ble_eq_true rfl)
  have N2 := Fr.snoc X2 N0 gb
  have O_2 := O0.wr W2 gb
  have K_2 := (Keep.refl h0 [bb]).wr W2 (Or.inl (List.mem_of_getElem? (i := 0) rfl))
  refine Goes.step (B := T2.setTop (mkF m 32 #[.val (.ref ca), .val (.int 0), .val (.ref bb), .val (.int 0), .val (.int 1), .val (.int 0), .val (.int ch0)] [])) st2 ?_
  refine Goes.step (fun _ k => pw_iinc X2.here hx (l' := #[.val (.ref ca), .val (.int 1), .val (.ref bb), .val (.int 0), .val (.int 1), .val (.int 0), .val (.int ch0)]) (hb hby d6_32) rfl rfl _ (pw_iinc X2.here hx (l' := #[.val (.ref ca), .val (.int 1), .val (.ref bb), .val (.int 1), .val (.int 1), .val (.int 0), .val (.int ch0)]) (hb hby d6_35) rfl rfl _ (pw_iinc X2.here hx (l' := #[.val (.ref ca), .val (.int 1), .val (.ref bb), .val (.int 1), .val (.int 1), .val (.int 1), .val (.int ch0)]) (hb hby d6_38) rfl rfl _ (pw_goto X2.here hx (pc' := 3) (hb hby d6_41) (by decide) (by decide) _ (pw_iload X2.here hx (hb hby d6_3) rfl _ (pw_iload X2.here hx (hb hby d6_5) rfl _ k)))))) ?_
  refine Goes.step (fun _ k => pw_icmpYes X2.here hx (pc' := 44) (hb hby d6_7) (flt (by decide)).2.1 (by decide) (by decide) _ (pw_iload X2.here hx (hb hby d6_44) rfl _ k)) ?_
  exact Goes.retI X2 hx e2 Bd.returns hlk (hb hby d6_46) (by decide) (by decide) (⟨rfl, N2, K_2, V2⟩)
theorem d5_0 : decode jdk_52_method_16_code 0 = .ok (.iload_n 2, 1) := by decide +kernel
theorem d5_1 : decode jdk_52_method_16_code 1 = .ok (.newarray .byte, 2) := by decide +kernel
theorem d5_3 : decode jdk_52_method_16_code 3 = .ok (.astore_n 3, 1) := by decide +kernel
theorem d5_4 : decode jdk_52_method_16_code 4 = .ok (.aload_n 0, 1) := by decide +kernel
theorem d5_5 : decode jdk_52_method_16_code 5 = .ok (.iload_n 1, 1) := by decide +kernel
theorem d5_6 : decode jdk_52_method_16_code 6 = .ok (.aload_n 3, 1) := by decide +kernel
theorem d5_7 : decode jdk_52_method_16_code 7 = .ok (.iconst 0, 1) := by decide +kernel
theorem d5_8 : decode jdk_52_method_16_code 8 = .ok (.iload_n 2, 1) := by decide +kernel
theorem d5_9 : decode jdk_52_method_16_code 9 = .ok (.invokestatic 115, 3) := by decide +kernel
theorem own_w24 {Z : State} {a0 : Array Value} (hw : ∀ d ∈ tables_1, d.before a0 Z = true) : (Jvm.Cond.methodLink "java/lang/StringUTF16" (115 : Nat) ({ cls := "java/lang/StringUTF16", name := "compress", desc := "([CI[BII)I" } : Jvm.MethodName)).before a0 Z = true := hw _ (List.mem_of_getElem? (i := 24) rfl)
theorem own_w26 {Z : State} {a0 : Array Value} (hw : ∀ d ∈ tables_1, d.before a0 Z = true) : (Jvm.Cond.code ({ cls := "java/lang/StringUTF16", name := "compress", desc := "([CI[BII)I" } : Jvm.MethodName) jdk_52_method_21_code (7 : Nat) (Option.some Jvm.ClassFile.FieldType.int)).before a0 Z = true := hw _ (List.mem_of_getElem? (i := 26) rfl)
theorem own_w21 {Z : State} {a0 : Array Value} (hw : ∀ d ∈ tables_1, d.before a0 Z = true) : (Jvm.Cond.initialized "java/lang/StringUTF16").before a0 Z = true := hw _ (List.mem_of_getElem? (i := 21) rfl)
theorem pd_1 : parseMethodDescriptor "([CI[BII)I" = some ⟨[(.array .char), .int, (.array .byte), .int, .int], some .int⟩ := by decide +kernel
theorem own_w25 {Z : State} {a0 : Array Value} (hw : ∀ d ∈ tables_1, d.before a0 Z = true) : (Jvm.Cond.static ({ cls := "java/lang/StringUTF16", name := "compress", desc := "([CI[BII)I" } : Jvm.MethodName)).before a0 Z = true := hw _ (List.mem_of_getElem? (i := 25) rfl)
theorem d5_12 : decode jdk_52_method_16_code 12 = .ok (.istore 4, 2) := by decide +kernel
theorem d5_14 : decode jdk_52_method_16_code 14 = .ok (.iload 4, 2) := by decide +kernel
theorem d5_16 : decode jdk_52_method_16_code 16 = .ok (.iload_n 2, 1) := by decide +kernel
theorem d5_17 : decode jdk_52_method_16_code 17 = .ok (.if_icmp .eq 40, 3) := by decide +kernel
theorem d5_57 : decode jdk_52_method_16_code 57 = .ok (.aload_n 3, 1) := by decide +kernel
theorem d5_58 : decode jdk_52_method_16_code 58 = .ok (.areturn, 1) := by decide +kernel
theorem ef_rmC3_1 (m : MethodId) (x0 : Addr) (x1 : Int32) (x2 : Int32) : entryFrame m #[(.ref x0), (.int x1), (.int x2)] 6 = mkF m 0 #[.val (.ref x0), .val (.int x1), .val (.int x2), .unset, .unset, .unset] [] := by first | (simp [entryFrame, mkF, argsToLocals, Value.category]; done) | rfl
def QC3_1 (Z : State) (ca : Addr) (kc : ClassId) (ch0 : Int32) (h0 : Heap) (n0 : Nat) (v : Option Value) (h : Heap) (L : List Loc) : Prop := ∃ (b : Addr) (k : ClassId), v = some (.ref b) ∧ Fr n0 L ∧ Keep h0 h [] ∧ n0 ≤ b ∧ h0.size ≤ b ∧ Arv Z h b k .byte (1 : Int32) [(.int (own_b ch0))] (.int 0)
set_option maxRecDepth 65536 in
set_option maxHeartbeats 40000000 in
theorem rmC3_1 (l : Launch) (Z : State) (a0 : Array Value) (hw : ∀ d ∈ tables_1, d.before a0 Z = true) (ws : List Jvm.Cond) (ca : Addr) (kc : ClassId) (ch0 : Int32) (h0 : Heap) (n0 : Nat) (O0 : Old Z n0 h0) (Vc : Arv Z h0 ca kc .char (1 : Int32) [.int ch0] (.int (0 : Int32))) (hk0 : own_ok ch0) :
    MetFree l (⟨"java/lang/StringUTF16", "compress", "([CII)[B"⟩ : MethodName) (head1 (Jvm.Cond.code (⟨"java/lang/StringUTF16", "compress", "([CII)[B"⟩ : MethodName) jdk_52_method_16_code 6 (some (.array .byte)) :: ws) ({ frames := 1, cells := 1, slots := 1, locals := 18 } : Room)) (fun a U => a = #[(.ref ca), (.int 0), (.int 1)] ∧ Z.Warmed39 U.vm ∧ U.heap = h0) (fun _ _ _ _ _ => True) (fun _ U o U' => ∃ v L, o = .returned v ∧ QC3_1 Z ca kc ch0 h0 n0 v U'.heap L ∧ FrameEnd U o U' L ({ frames := 1, cells := 1, slots := 1, locals := 18 } : Room).cells ({ frames := 1, cells := 1, slots := 1, locals := 18 } : Room).slots) := by
  refine MetFree.of_bodySF (plainFor_of_name pn_StringUTF16) hisR ?_
  intro p e s m args below meth c s₁ Bd hml0 hP hK
  obtain ⟨rfl, hZ, hh⟩ := hP
  have hx := Bd.exec
  have hby := Bd.bytes
  have hlk : meth.locks = false := BodyLoose.notSynchronized Bd
  have hml : c.maxLocals = 6 := hml0
  have hown : s.vm.findClass "java/lang/StringUTF16" = some m.cls := findClass_of_methodNamed Bd.named
  have hnm := (name_of_methodNamed Bd.named Bd.method).1
  have X0 : Stand p l e ({ frames := 1, cells := 1, slots := 1, locals := 18 } : Room) s m #[(.ref ca), (.int 0), (.int 1)] below meth c s₁ [] 0 0 := Stand.of_body Bd
  have e0 : s₁.heap = h0 := by rw [← hh, Bd.state]; rfl
  have N0 := Fr.nil n0
  show Goes p e below s (QC3_1 Z ca kc ch0 h0 n0) ({ frames := 1, cells := 1, slots := 1, locals := 18 } : Room).cells ({ frames := 1, cells := 1, slots := 1, locals := 18 } : Room).slots (s₁.setTop (entryFrame m #[(.ref ca), (.int 0), (.int 1)] 6))
  refine Goes.enter (g' := (mkF m 0 #[.val (.ref ca), .val (.int 0), .val (.int 1), .unset, .unset, .unset] [])) (ef_rmC3_1 m ca ((0 : Int32)) ((1 : Int32))) ?_
  refine Goes.step (fun _ k => pw_iloadN X0.here hx (hb hby d5_0) rfl _ k) ?_
  obtain ⟨T1, h1, k1, X1, e1, E1, A1, st1⟩ := newP (aty := .byte) X0 hx hZ (own_w23 hw) e0 (g := (mkF m 1 #[.val (.ref ca), .val (.int 0), .val (.int 1), .unset, .unset, .unset] [(.int 1)])) rfl (hb hby d5_1) rfl (by decide) (cap := 1) (by decide) (by decide) (by decide) (by decide)
  obtain ⟨b1, g1⟩ : ∃ z, z = h0.size := ⟨_, rfl⟩
  rw [← g1] at A1 st1
  have ne_ca_b1 : ca ≠ b1 := Nat.ne_of_lt (Nat.lt_of_lt_of_le Vc.lt (Nat.le_of_eq g1.symm))
  have g_b1 : n0 ≤ b1 := Nat.le_trans (own_z O0) (Nat.le_of_eq g1.symm)
  have O_1 := O0.ext E1
  have sz_b1 : h0.size ≤ b1 := Nat.le_trans (Keep.refl h0 []).1 (Nat.le_of_eq g1.symm)
  have K_1 := (Keep.refl h0 []).ext E1
  have V_b1 : Arv Z h1 b1 k1 .byte (1 : Int32) [(.int 0)] (.int 0) := (Arv.new A1 (by decide)).pad (pad_rep [] (.int 0) 1)
  refine Goes.step (B := T1.setTop (mkF m 3 #[.val (.ref ca), .val (.int 0), .val (.int 1), .unset, .unset, .unset] [(.ref b1)])) st1 ?_
  refine Goes.step (fun _ k => pw_astoreN X1.here hx (l' := #[.val (.ref ca), .val (.int 0), .val (.int 1), .val (.ref b1), .unset, .unset]) (hb hby d5_3) rfl rfl _ (pw_aloadN X1.here hx (hb hby d5_4) rfl rfl _ (pw_iloadN X1.here hx (hb hby d5_5) rfl _ (pw_aloadN X1.here hx (hb hby d5_6) rfl rfl _ (pw_iconst X1.here hx (v := (0 : Int32)) (hb hby d5_7) rfl _ (pw_iloadN X1.here hx (hb hby d5_8) rfl _ k)))))) ?_
  have f3 := (Vc.ext E1)
  obtain ⟨_, _, ⟨T2, qL2, qk2, qn2⟩, -, X2, ⟨Lc2, hQ2, ql2, qy2, qz2⟩, st2⟩ := Jvm.LawKit.callS X1 hx (y := (⟨"java/lang/StringUTF16", "compress", "([CI[BII)I"⟩ : MethodName)) hown (mvT hZ (own_w24 hw)) (mvT hZ (own_w25 hw)) (mvT hZ (own_w21 hw)) (mvT hZ (own_w26 hw)) (by decide) (backOf (W := 0) (rmC5_1 l Z a0 hw [] ca kc b1 k1 ch0 h1 n0 O_1 f3 V_b1 g_b1 ne_ca_b1 hk0) hZ (own_w26 hw) (own_w21 hw) (by decide) (by decide)) (g := (mkF m 9 #[.val (.ref ca), .val (.int 0), .val (.int 1), .val (.ref b1), .unset, .unset] [(.int 1), (.int 0), (.ref b1), (.int 0), (.ref ca)])) rfl (by rw [hml]; rfl) (argsL := [(.ref ca), (.int 0), (.ref b1), (.int 0), (.int 1)]) (rest := []) (lenOf pd_1 rfl) rfl (by show 2 * 0 + _ ≤ _; exact Nat.le_of_eq rfl) (hb hby d5_9) (fun _ _ => ⟨rfl, e1, (by decide : 1 + 0 ≤ _), (by decide : 1 + 0 ≤ _)⟩)
  dsimp only [Pt.U, Pt.locs, Pt.cells, Pt.slots] at X2 ql2 qy2 qz2 st2 hQ2
  rw [ql2, qy2, qz2] at X2
  obtain ⟨rfl, Nq2, Kp2, Vq2⟩ := hQ2
  have O_2 := O_1.keep Kp2 (allS g_b1 all0)
  have K_2 := K_1.trans Kp2 (allS (P := fun x => x ∈ _ ∨ _) (Or.inr sz_b1) all0)
  have N2 := Fr.app N0 Nq2
  refine Goes.step (B := T2.setTop (mkF m 12 #[.val (.ref ca), .val (.int 0), .val (.int 1), .val (.ref b1), .unset, .unset] [(.int 1)])) st2 ?_
  refine Goes.step (fun _ k => pw_istore X2.here hx (l' := #[.val (.ref ca), .val (.int 0), .val (.int 1), .val (.ref b1), .val (.int 1), .unset]) (hb hby d5_12) rfl _ (pw_iload X2.here hx (hb hby d5_14) rfl _ (pw_iloadN X2.here hx (hb hby d5_16) rfl _ (pw_icmpYes X2.here hx (pc' := 57) (hb hby d5_17) (teq (by decide)).1 (by decide) (by decide) _ (pw_aloadN X2.here hx (hb hby d5_57) rfl rfl _ k))))) ?_
  exact Goes.retA X2 hx rfl Bd.returns rfl rfl hlk (hb hby d5_58) (by decide) (by decide) (⟨b1, k1, rfl, N2, K_2, g_b1, sz_b1, Vq2⟩)
theorem d7_0 : decode jdk_52_method_15_code 0 = .ok (.iload_n 1, 1) := by decide +kernel
theorem d7_1 : decode jdk_52_method_15_code 1 = .ok (.aload_n 0, 1) := by decide +kernel
theorem d7_2 : decode jdk_52_method_15_code 2 = .ok (.arraylength, 1) := by decide +kernel
theorem d7_3 : decode jdk_52_method_15_code 3 = .ok (.isub, 1) := by decide +kernel
theorem d7_4 : decode jdk_52_method_15_code 4 = .ok (.bipush 31, 2) := by decide +kernel
theorem d7_6 : decode jdk_52_method_15_code 6 = .ok (.iushr, 1) := by decide +kernel
theorem d7_7 : decode jdk_52_method_15_code 7 = .ok (.i2b, 1) := by decide +kernel
theorem d7_8 : decode jdk_52_method_15_code 8 = .ok (.ireturn, 1) := by decide +kernel
theorem ef_rmCF_1 (m : MethodId) (x0 : Addr) (x1 : Int32) : entryFrame m #[(.ref x0), (.int x1)] 2 = mkF m 0 #[.val (.ref x0), .val (.int x1)] [] := by first | (simp [entryFrame, mkF, argsToLocals, Value.category]; done) | rfl
def QCF_1 (Z : State) (bb : Addr) (kb : ClassId) (ls : List Value) (h0 : Heap) (n0 : Nat) (v : Option Value) (h : Heap) (L : List Loc) : Prop := v = some (.int 0) ∧ Fr n0 L ∧ h = h0
set_option maxRecDepth 65536 in
set_option maxHeartbeats 40000000 in
theorem rmCF_1 (l : Launch) (Z : State) (a0 : Array Value) (hw : ∀ d ∈ tables_1, d.before a0 Z = true) (ws : List Jvm.Cond) (bb : Addr) (kb : ClassId) (ls : List Value) (h0 : Heap) (n0 : Nat) (O0 : Old Z n0 h0) (Vb : Arv Z h0 bb kb .byte (1 : Int32) ls (.int (0 : Int32))) :
    MetFree l (⟨"java/lang/StringUTF16", "coderFromArrayLen", "([BI)B"⟩ : MethodName) (head1 (Jvm.Cond.code (⟨"java/lang/StringUTF16", "coderFromArrayLen", "([BI)B"⟩ : MethodName) jdk_52_method_15_code 2 (some .byte) :: ws) ({ frames := 0, cells := 0, slots := 0, locals := 0 } : Room)) (fun a U => a = #[(.ref bb), (.int 1)] ∧ Z.Warmed39 U.vm ∧ U.heap = h0) (fun _ _ _ _ _ => True) (fun _ U o U' => ∃ v L, o = .returned v ∧ QCF_1 Z bb kb ls h0 n0 v U'.heap L ∧ FrameEnd U o U' L ({ frames := 0, cells := 0, slots := 0, locals := 0 } : Room).cells ({ frames := 0, cells := 0, slots := 0, locals := 0 } : Room).slots) := by
  refine MetFree.of_bodySF (plainFor_of_name pn_StringUTF16) hisR ?_
  intro p e s m args below meth c s₁ Bd hml0 hP hK
  obtain ⟨rfl, hZ, hh⟩ := hP
  have hx := Bd.exec
  have hby := Bd.bytes
  have hlk : meth.locks = false := BodyLoose.notSynchronized Bd
  have hml : c.maxLocals = 2 := hml0
  have hown : s.vm.findClass "java/lang/StringUTF16" = some m.cls := findClass_of_methodNamed Bd.named
  have hnm := (name_of_methodNamed Bd.named Bd.method).1
  have X0 : Stand p l e ({ frames := 0, cells := 0, slots := 0, locals := 0 } : Room) s m #[(.ref bb), (.int 1)] below meth c s₁ [] 0 0 := Stand.of_body Bd
  have e0 : s₁.heap = h0 := by rw [← hh, Bd.state]; rfl
  have N0 := Fr.nil n0
  show Goes p e below s (QCF_1 Z bb kb ls h0 n0) ({ frames := 0, cells := 0, slots := 0, locals := 0 } : Room).cells ({ frames := 0, cells := 0, slots := 0, locals := 0 } : Room).slots (s₁.setTop (entryFrame m #[(.ref bb), (.int 1)] 2))
  refine Goes.enter (g' := (mkF m 0 #[.val (.ref bb), .val (.int 1)] [])) (ef_rmCF_1 m bb ((1 : Int32))) ?_
  refine Goes.step (fun _ k => pw_iloadN X0.here hx (hb hby d7_0) rfl _ (pw_aloadN X0.here hx (hb hby d7_1) rfl rfl _ k)) ?_
  obtain ⟨c1, Ar1, -, Sz1, Nn1, -, -⟩ := id Vb
  have len1 := X0.arraylength hx (by rw [e0]; exact Ar1.1) (State.isArrayOf_alike hZ.alike Ar1.2.1) (g := (mkF m 2 #[.val (.ref bb), .val (.int 1)] [(.ref bb), (.int 1)])) rfl rfl (hb hby d7_2)
  rw [len_of Sz1 Nn1] at len1
  refine Goes.step (B := s₁.setTop (mkF m 3 #[.val (.ref bb), .val (.int 1)] [(.int 1), (.int 1)])) len1 ?_
  refine Goes.step (B := s₁.setTop (mkF m 4 #[.val (.ref bb), .val (.int 1)] [(.int 0)])) (fun _ k => XS.isub X0.here hx rfl (hb hby d7_3) rfl k) ?_
  refine Goes.step (fun _ k => pw_bipush X0.here hx (v := (31 : Int32)) (hb hby d7_4) rfl _ k) ?_
  refine Goes.step (B := s₁.setTop (mkF m 7 #[.val (.ref bb), .val (.int 1)] [(.int 0)])) (fun _ k => XS.iushr X0.here hx rfl (hb hby d7_6) rfl k) ?_
  refine Goes.step (B := s₁.setTop (mkF m 8 #[.val (.ref bb), .val (.int 1)] [(.int 0)])) (fun _ k => XS.i2b X0.here hx rfl (hb hby d7_7) rfl k) ?_
  exact Goes.retN X0 hx e0 (t := .byte) Bd.returns (by simp) hlk (hb hby d7_8) (by decide) (by decide) (⟨rfl, N0, rfl⟩)
theorem d3_27 : decode jdk_42_method_149_code 27 = .ok (.getstatic 38, 3) := by decide +kernel
theorem own_w18 {Z : State} {a0 : Array Value} (hw : ∀ d ∈ tables_1, d.before a0 Z = true) : (Jvm.Cond.fieldLink "java/lang/String" (38 : Nat) "java/lang/String" "COMPACT_STRINGS" "Z").before a0 Z = true := hw _ (List.mem_of_getElem? (i := 18) rfl)
theorem d3_30 : decode jdk_42_method_149_code 30 = .ok (.ifCond .eq 28, 3) := by decide +kernel
theorem d3_33 : decode jdk_42_method_149_code 33 = .ok (.aload_n 1, 1) := by decide +kernel
theorem d3_34 : decode jdk_42_method_149_code 34 = .ok (.iload_n 2, 1) := by decide +kernel
theorem d3_35 : decode jdk_42_method_149_code 35 = .ok (.iload_n 3, 1) := by decide +kernel
theorem d3_36 : decode jdk_42_method_149_code 36 = .ok (.invokestatic 177, 3) := by decide +kernel
theorem own_w19 {Z : State} {a0 : Array Value} (hw : ∀ d ∈ tables_1, d.before a0 Z = true) : (Jvm.Cond.methodLink "java/lang/String" (177 : Nat) ({ cls := "java/lang/StringUTF16", name := "compress", desc := "([CII)[B" } : Jvm.MethodName)).before a0 Z = true := hw _ (List.mem_of_getElem? (i := 19) rfl)
theorem own_w22 {Z : State} {a0 : Array Value} (hw : ∀ d ∈ tables_1, d.before a0 Z = true) : (Jvm.Cond.code ({ cls := "java/lang/StringUTF16", name := "compress", desc := "([CII)[B" } : Jvm.MethodName) jdk_52_method_16_code (6 : Nat) (Option.some (Jvm.ClassFile.FieldType.array Jvm.ClassFile.FieldType.byte))).before a0 Z = true := hw _ (List.mem_of_getElem? (i := 22) rfl)
theorem pd_2 : parseMethodDescriptor "([CII)[B" = some ⟨[(.array .char), .int, .int], some (.array .byte)⟩ := by decide +kernel
theorem own_w20 {Z : State} {a0 : Array Value} (hw : ∀ d ∈ tables_1, d.before a0 Z = true) : (Jvm.Cond.static ({ cls := "java/lang/StringUTF16", name := "compress", desc := "([CII)[B" } : Jvm.MethodName)).before a0 Z = true := hw _ (List.mem_of_getElem? (i := 20) rfl)
theorem d3_39 : decode jdk_42_method_149_code 39 = .ok (.astore 5, 2) := by decide +kernel
theorem d3_41 : decode jdk_42_method_149_code 41 = .ok (.aload_n 0, 1) := by decide +kernel
theorem d3_42 : decode jdk_42_method_149_code 42 = .ok (.aload 5, 2) := by decide +kernel
theorem d3_44 : decode jdk_42_method_149_code 44 = .ok (.iload_n 3, 1) := by decide +kernel
theorem d3_45 : decode jdk_42_method_149_code 45 = .ok (.invokestatic 47, 3) := by decide +kernel
theorem own_w27 {Z : State} {a0 : Array Value} (hw : ∀ d ∈ tables_1, d.before a0 Z = true) : (Jvm.Cond.methodLink "java/lang/String" (47 : Nat) ({ cls := "java/lang/StringUTF16", name := "coderFromArrayLen", desc := "([BI)B" } : Jvm.MethodName)).before a0 Z = true := hw _ (List.mem_of_getElem? (i := 27) rfl)
theorem own_w29 {Z : State} {a0 : Array Value} (hw : ∀ d ∈ tables_1, d.before a0 Z = true) : (Jvm.Cond.code ({ cls := "java/lang/StringUTF16", name := "coderFromArrayLen", desc := "([BI)B" } : Jvm.MethodName) jdk_52_method_15_code (2 : Nat) (Option.some Jvm.ClassFile.FieldType.byte)).before a0 Z = true := hw _ (List.mem_of_getElem? (i := 29) rfl)
theorem pd_3 : parseMethodDescriptor "([BI)B" = some ⟨[(.array .byte), .int], some .byte⟩ := by decide +kernel
theorem own_w28 {Z : State} {a0 : Array Value} (hw : ∀ d ∈ tables_1, d.before a0 Z = true) : (Jvm.Cond.static ({ cls := "java/lang/StringUTF16", name := "coderFromArrayLen", desc := "([BI)B" } : Jvm.MethodName)).before a0 Z = true := hw _ (List.mem_of_getElem? (i := 28) rfl)
theorem d3_48 : decode jdk_42_method_149_code 48 = .ok (.putfield 15, 3) := by decide +kernel
theorem d3_51 : decode jdk_42_method_149_code 51 = .ok (.aload_n 0, 1) := by decide +kernel
theorem d3_52 : decode jdk_42_method_149_code 52 = .ok (.aload 5, 2) := by decide +kernel
theorem d3_54 : decode jdk_42_method_149_code 54 = .ok (.putfield 9, 3) := by decide +kernel
theorem d3_57 : decode jdk_42_method_149_code 57 = .ok (.return_, 1) := by decide +kernel
theorem ef_rmSJ_1 (m : MethodId) (x0 : Addr) (x1 : Addr) (x2 : Int32) (x3 : Int32) : entryFrame m #[(.ref x0), (.ref x1), (.int x2), (.int x3), .null] 6 = mkF m 0 #[.val (.ref x0), .val (.ref x1), .val (.int x2), .val (.int x3), .val .null, .unset] [] := by first | (simp [entryFrame, mkF, argsToLocals, Value.category]; done) | rfl
def QSJ_1 (Z : State) (a0r : Addr) (ca : Addr) (kc : ClassId) (cs : Int32) (ch0 : Int32) (h0 : Heap) (n0 : Nat) (v : Option Value) (h : Heap) (L : List Loc) : Prop := v = none ∧ Fr n0 L ∧ Keep h0 h [a0r] ∧ Exa Z h a0r "java/lang/String" ∧ ∃ (vb : Addr) (kv : ClassId), Fld Z h a0r "java/lang/String" "value" "[B" (.ref vb) ∧ Fld Z h a0r "java/lang/String" "coder" "B" (.int (0 : Int32)) ∧ Arv Z h vb kv .byte (1 : Int32) [.int (own_b ch0)] (.int (0 : Int32))
set_option maxRecDepth 65536 in
set_option maxHeartbeats 40000000 in
theorem rmSJ_1 (l : Launch) (Z : State) (a0 : Array Value) (hw : ∀ d ∈ tables_1, d.before a0 Z = true) (ws : List Jvm.Cond) (a0r : Addr) (ca : Addr) (kc : ClassId) (cs : Int32) (ch0 : Int32) (h0 : Heap) (n0 : Nat) (O0 : Old Z n0 h0) (Er : Exa Z h0 a0r "java/lang/String") (gr : n0 ≤ a0r) (Fr_value : Fld Z h0 a0r "java/lang/String" "value" "[B" .null) (Fr_coder : Fld Z h0 a0r "java/lang/String" "coder" "B" (.int (0 : Int32))) (Vc : Arv Z h0 ca kc .char (1 : Int32) [.int ch0] (.int (0 : Int32))) (Sc : Sta Z h0 "java/lang/String" "COMPACT_STRINGS" "Z" (.int cs)) (hcs : ¬ cs = (0 : Int32)) (hk0 : own_ok ch0) :
    MetFree l (⟨"java/lang/String", "<init>", "([CIILjava/lang/Void;)V"⟩ : MethodName) (head1 (Jvm.Cond.code (⟨"java/lang/String", "<init>", "([CIILjava/lang/Void;)V"⟩ : MethodName) jdk_42_method_149_code 6 none :: ws) ({ frames := 2, cells := 1, slots := 1, locals := 35 } : Room)) (fun a U => a = #[(.ref a0r), (.ref ca), (.int 0), (.int 1), .null] ∧ Z.Warmed39 U.vm ∧ U.heap = h0) (fun _ _ _ _ _ => True) (fun _ U o U' => ∃ v L, o = .returned v ∧ QSJ_1 Z a0r ca kc cs ch0 h0 n0 v U'.heap L ∧ FrameEnd U o U' L ({ frames := 2, cells := 1, slots := 1, locals := 35 } : Room).cells ({ frames := 2, cells := 1, slots := 1, locals := 35 } : Room).slots) := by
  refine MetFree.of_bodySF (plainFor_of_name pn_String) hisR ?_
  intro p e s m args below meth c s₁ Bd hml0 hP hK
  obtain ⟨rfl, hZ, hh⟩ := hP
  have hx := Bd.exec
  have hby := Bd.bytes
  have hlk : meth.locks = false := BodyLoose.notSynchronized Bd
  have hml : c.maxLocals = 6 := hml0
  have hown : s.vm.findClass "java/lang/String" = some m.cls := findClass_of_methodNamed Bd.named
  have hnm := (name_of_methodNamed Bd.named Bd.method).1
  have X0 : Stand p l e ({ frames := 2, cells := 1, slots := 1, locals := 35 } : Room) s m #[(.ref a0r), (.ref ca), (.int 0), (.int 1), .null] below meth c s₁ [] 0 0 := Stand.of_body Bd
  have e0 : s₁.heap = h0 := by rw [← hh, Bd.state]; rfl
  have N0 := Fr.nil n0
  show Goes p e below s (QSJ_1 Z a0r ca kc cs ch0 h0 n0) ({ frames := 2, cells := 1, slots := 1, locals := 35 } : Room).cells ({ frames := 2, cells := 1, slots := 1, locals := 35 } : Room).slots (s₁.setTop (entryFrame m #[(.ref a0r), (.ref ca), (.int 0), (.int 1), .null] 6))
  refine Goes.enter (g' := (mkF m 0 #[.val (.ref a0r), .val (.ref ca), .val (.int 0), .val (.int 1), .val .null, .unset] [])) (ef_rmSJ_1 m a0r ca ((0 : Int32)) ((1 : Int32))) ?_
  refine Goes.step (fun _ k => pw_aloadN X0.here hx (hb hby d3_0) rfl rfl _ k) ?_
  obtain ⟨T1, X1, e1, st1⟩ := initO X0 hx hZ hown (own_w15 hw) (own_w16 hw) (own_w17 hw) e0 (g := (mkF m 1 #[.val (.ref a0r), .val (.ref ca), .val (.int 0), .val (.int 1), .val .null, .unset] [(.ref a0r)])) rfl (by rw [hml]; rfl) rfl (hb hby d3_1) (by decide) (W := 0) (by show 2 * 0 + _ ≤ _; exact Nat.le_of_eq rfl) (by decide)
  refine Goes.step (B := T1.setTop (mkF m 4 #[.val (.ref a0r), .val (.ref ca), .val (.int 0), .val (.int 1), .val .null, .unset] [])) st1 ?_
  refine Goes.step (fun _ k => pw_iloadN X1.here hx (hb hby d3_4) rfl _ (pw_ifYes X1.here hx (pc' := 27) (hb hby d3_5) ((if0 _ _).trans (feq (by decide)).2) (by decide) (by decide) _ k)) ?_
  obtain ⟨T2, X2, e2, st2⟩ := getS2 X1 hx hZ hown (host := "") (Or.inl (own_w18 hw)) Via.refl e1 Sc (g := (mkF m 27 #[.val (.ref a0r), .val (.ref ca), .val (.int 0), .val (.int 1), .val .null, .unset] [])) rfl (hb hby d3_27)
  refine Goes.step (B := T2.setTop (mkF m 30 #[.val (.ref a0r), .val (.ref ca), .val (.int 0), .val (.int 1), .val .null, .unset] [(.int cs)])) st2 ?_
  refine Goes.step (fun _ k => pw_ifNo X2.here hx (hb hby d3_30) ((if0 _ _).trans (feq hcs).1) _ (pw_aloadN X2.here hx (hb hby d3_33) rfl rfl _ (pw_iloadN X2.here hx (hb hby d3_34) rfl _ (pw_iloadN X2.here hx (hb hby d3_35) rfl _ k)))) ?_
  have lt_a0r_3 := Er.lt
  have lt_ca_3 := Vc.lt
  obtain ⟨_, _, ⟨T3, qL3, qk3, qn3⟩, -, X3, ⟨Lc3, hQ3, ql3, qy3, qz3⟩, st3⟩ := Jvm.LawKit.callS X2 hx (y := (⟨"java/lang/StringUTF16", "compress", "([CII)[B"⟩ : MethodName)) hown (mvT hZ (own_w19 hw)) (mvT hZ (own_w20 hw)) (mvT hZ (own_w21 hw)) (mvT hZ (own_w22 hw)) (by decide) (backOf (W := 0) (rmC3_1 l Z a0 hw [] ca kc ch0 h0 n0 O0 Vc hk0) hZ (own_w22 hw) (own_w21 hw) (by decide) (by decide)) (g := (mkF m 36 #[.val (.ref a0r), .val (.ref ca), .val (.int 0), .val (.int 1), .val .null, .unset] [(.int 1), (.int 0), (.ref ca)])) rfl (by rw [hml]; rfl) (argsL := [(.ref ca), (.int 0), (.int 1)]) (rest := []) (lenOf pd_2 rfl) rfl (by show 2 * 0 + _ ≤ _; exact Nat.le_of_eq rfl) (hb hby d3_36) (fun _ _ => ⟨rfl, e2, (by decide : 0 + 1 ≤ _), (by decide : 0 + 1 ≤ _)⟩)
  dsimp only [Pt.U, Pt.locs, Pt.cells, Pt.slots] at X3 ql3 qy3 qz3 st3 hQ3
  rw [ql3, qy3, qz3] at X3
  obtain ⟨fb3, fk3, rfl, Nq3, Kp3, gb3, sb3, Vb3⟩ := hQ3
  have ne_a0r_fb3 : a0r ≠ fb3 := Nat.ne_of_lt (Nat.lt_of_lt_of_le lt_a0r_3 sb3)
  have ne_ca_fb3 : ca ≠ fb3 := Nat.ne_of_lt (Nat.lt_of_lt_of_le lt_ca_3 sb3)
  have O_3 := O0.keep Kp3 all0
  have K_3 := (Keep.refl h0 [a0r]).trans Kp3 all0
  have N3 := Fr.app N0 Nq3
  refine Goes.step (B := T3.setTop (mkF m 39 #[.val (.ref a0r), .val (.ref ca), .val (.int 0), .val (.int 1), .val .null, .unset] [(.ref fb3)])) st3 ?_
  refine Goes.step (fun _ k => pw_astore X3.here hx (l' := #[.val (.ref a0r), .val (.ref ca), .val (.int 0), .val (.int 1), .val .null, .val (.ref fb3)]) (hb hby d3_39) rfl rfl _ (pw_aloadN X3.here hx (hb hby d3_41) rfl rfl _ (pw_aload X3.here hx (hb hby d3_42) rfl rfl _ (pw_iloadN X3.here hx (hb hby d3_44) rfl _ k)))) ?_
  obtain ⟨_, _, ⟨T4, qL4, qk4, qn4⟩, -, X4, ⟨Lc4, hQ4, ql4, qy4, qz4⟩, st4⟩ := Jvm.LawKit.callS X3 hx (y := (⟨"java/lang/StringUTF16", "coderFromArrayLen", "([BI)B"⟩ : MethodName)) hown (mvT hZ (own_w27 hw)) (mvT hZ (own_w28 hw)) (mvT hZ (own_w21 hw)) (mvT hZ (own_w29 hw)) (by decide) (backOf (W := 1) (rmCF_1 l Z a0 hw [] fb3 fk3 [(.int (own_b ch0))] T3.heap n0 O_3 Vb3) hZ (own_w29 hw) (own_w21 hw) (by decide) (by decide)) (g := (mkF m 45 #[.val (.ref a0r), .val (.ref ca), .val (.int 0), .val (.int 1), .val .null, .val (.ref fb3)] [(.int 1), (.ref fb3), (.ref a0r)])) rfl (by rw [hml]; rfl) (argsL := [(.ref fb3), (.int 1)]) (rest := [(.ref a0r)]) (lenOf pd_3 rfl) rfl (by show 2 * 0 + _ ≤ _; exact Nat.le_of_eq rfl) (hb hby d3_45) (fun _ _ => ⟨rfl, rfl, (by decide : 1 + 0 ≤ _), (by decide : 1 + 0 ≤ _)⟩)
  dsimp only [Pt.U, Pt.locs, Pt.cells, Pt.slots] at X4 ql4 qy4 qz4 st4 hQ4
  rw [ql4, qy4, qz4] at X4
  obtain ⟨rfl, Nq4, eh4⟩ := hQ4
  have N4 := Fr.app N3 Nq4
  refine Goes.step (B := T4.setTop (mkF m 48 #[.val (.ref a0r), .val (.ref ca), .val (.int 0), .val (.int 1), .val .null, .val (.ref fb3)] [(.int 0), (.ref a0r)])) st4 ?_
  have f5 := (Er.keep Kp3)
  have f6 := (Fr_coder.keep Kp3 nin0)
  obtain ⟨T7, h7, X7, e7, W7, st7⟩ := putFN X4 hx hZ hown (own_w30 hw) Via.refl eh4 f6 f5 (Or.inr ⟨(own_w31 hw), rfl, hnm⟩) (own_w6 hw) (ty := .byte) (v' := (.int 0)) (by decide) rfl (by decide) (g := (mkF m 48 #[.val (.ref a0r), .val (.ref ca), .val (.int 0), .val (.int 1), .val .null, .val (.ref fb3)] [(.int 0), (.ref a0r)])) rfl rfl (hb hby d3_48)
  have Fw7 := f6.same W7
  have N7 := Fr.snoc X7 N4 gr
  have O_7 := O_3.wr W7 gr
  have K_7 := K_3.wr W7 (Or.inl (List.mem_of_getElem? (i := 0) rfl))
  refine Goes.step (B := T7.setTop (mkF m 51 #[.val (.ref a0r), .val (.ref ca), .val (.int 0), .val (.int 1), .val .null, .val (.ref fb3)] [])) st7 ?_
  refine Goes.step (fun _ k => pw_aloadN X7.here hx (hb hby d3_51) rfl rfl _ (pw_aload X7.here hx (hb hby d3_52) rfl rfl _ k)) ?_
  have f8 := (f5.wr W7)
  have f9 := ((Fr_value.keep Kp3 nin0).other W7 (Or.inr (slot_ne (Or.inr (own_w33 hw)) (Or.inr (own_w31 hw)) (by decide) (t := (.array .byte)) (t' := .byte) (by decide) (by decide))))
  obtain ⟨T10, h10, X10, e10, W10, st10⟩ := putF X7 hx hZ hown (host := "") (Or.inl (own_w32 hw)) Via.refl e7 f9 f8 (Or.inr ⟨(own_w33 hw), rfl, hnm⟩) (own_w6 hw) (ty := (.array .byte)) (by decide) rfl rfl (g := (mkF m 54 #[.val (.ref a0r), .val (.ref ca), .val (.int 0), .val (.int 1), .val .null, .val (.ref fb3)] [(.ref fb3), (.ref a0r)])) rfl rfl (hb hby d3_54)
  have Fw10 := f9.same W10
  have N10 := Fr.snoc X10 N7 gr
  have O_10 := O_7.wr W10 gr
  have K_10 := K_7.wr W10 (Or.inl (List.mem_of_getElem? (i := 0) rfl))
  refine Goes.step (B := T10.setTop (mkF m 57 #[.val (.ref a0r), .val (.ref ca), .val (.int 0), .val (.int 1), .val .null, .val (.ref fb3)] [])) st10 ?_
  have f11 := (f8.wr W10)
  have f12 := (Fw7.other W10 (Or.inr (slot_ne (Or.inr (own_w31 hw)) (Or.inr (own_w33 hw)) (by decide) (t := .byte) (t' := (.array .byte)) (by decide) (by decide))))
  have f13 := ((Vb3.other W7 (Ne.symm ne_a0r_fb3)).other W10 (Ne.symm ne_a0r_fb3))
  exact Goes.retV X10 hx e10 Bd.returns hlk (hb hby d3_57) (by decide) (by decide) (⟨rfl, N10, K_10, f11, fb3, fk3, Fw10, f12, f13⟩)
theorem ef_rmSI_1 (m : MethodId) (x0 : Addr) (x1 : Addr) : entryFrame m #[(.ref x0), (.ref x1)] 2 = mkF m 0 #[.val (.ref x0), .val (.ref x1)] [] := by first | (simp [entryFrame, mkF, argsToLocals, Value.category]; done) | rfl
def QSI_1 (Z : State) (a0r : Addr) (ca : Addr) (kc : ClassId) (cs : Int32) (ch0 : Int32) (h0 : Heap) (n0 : Nat) (v : Option Value) (h : Heap) (L : List Loc) : Prop := v = none ∧ Fr n0 L ∧ Keep h0 h [a0r] ∧ Exa Z h a0r "java/lang/String" ∧ ∃ (vb : Addr) (kv : ClassId), Fld Z h a0r "java/lang/String" "value" "[B" (.ref vb) ∧ Fld Z h a0r "java/lang/String" "coder" "B" (.int (0 : Int32)) ∧ Arv Z h vb kv .byte (1 : Int32) [.int (own_b ch0)] (.int (0 : Int32))
set_option maxRecDepth 65536 in
set_option maxHeartbeats 40000000 in
theorem rmSI_1 (l : Launch) (Z : State) (a0 : Array Value) (hw : ∀ d ∈ tables_1, d.before a0 Z = true) (ws : List Jvm.Cond) (a0r : Addr) (ca : Addr) (kc : ClassId) (cs : Int32) (ch0 : Int32) (h0 : Heap) (n0 : Nat) (O0 : Old Z n0 h0) (Er : Exa Z h0 a0r "java/lang/String") (gr : n0 ≤ a0r) (Fr_value : Fld Z h0 a0r "java/lang/String" "value" "[B" .null) (Fr_coder : Fld Z h0 a0r "java/lang/String" "coder" "B" (.int (0 : Int32))) (Vc : Arv Z h0 ca kc .char (1 : Int32) [.int ch0] (.int (0 : Int32))) (Sc : Sta Z h0 "java/lang/String" "COMPACT_STRINGS" "Z" (.int cs)) (hcs : ¬ cs = (0 : Int32)) (hk0 : own_ok ch0) :
    MetFree l (⟨"java/lang/String", "<init>", "([C)V"⟩ : MethodName) (head1 (Jvm.Cond.code (⟨"java/lang/String", "<init>", "([C)V"⟩ : MethodName) jdk_42_method_3_code 2 none :: ws) ({ frames := 3, cells := 1, slots := 1, locals := 52 } : Room)) (fun a U => a = #[(.ref a0r), (.ref ca)] ∧ Z.Warmed39 U.vm ∧ U.heap = h0) (fun _ _ _ _ _ => True) (fun _ U o U' => ∃ v L, o = .returned v ∧ QSI_1 Z a0r ca kc cs ch0 h0 n0 v U'.heap L ∧ FrameEnd U o U' L ({ frames := 3, cells := 1, slots := 1, locals := 52 } : Room).cells ({ frames := 3, cells := 1, slots := 1, locals := 52 } : Room).slots) := by
  refine MetFree.of_bodySF (plainFor_of_name pn_String) hisR ?_
  intro p e s m args below meth c s₁ Bd hml0 hP hK
  obtain ⟨rfl, hZ, hh⟩ := hP
  have hx := Bd.exec
  have hby := Bd.bytes
  have hlk : meth.locks = false := BodyLoose.notSynchronized Bd
  have hml : c.maxLocals = 2 := hml0
  have hown : s.vm.findClass "java/lang/String" = some m.cls := findClass_of_methodNamed Bd.named
  have hnm := (name_of_methodNamed Bd.named Bd.method).1
  have X0 : Stand p l e ({ frames := 3, cells := 1, slots := 1, locals := 52 } : Room) s m #[(.ref a0r), (.ref ca)] below meth c s₁ [] 0 0 := Stand.of_body Bd
  have e0 : s₁.heap = h0 := by rw [← hh, Bd.state]; rfl
  have N0 := Fr.nil n0
  show Goes p e below s (QSI_1 Z a0r ca kc cs ch0 h0 n0) ({ frames := 3, cells := 1, slots := 1, locals := 52 } : Room).cells ({ frames := 3, cells := 1, slots := 1, locals := 52 } : Room).slots (s₁.setTop (entryFrame m #[(.ref a0r), (.ref ca)] 2))
  refine Goes.enter (g' := (mkF m 0 #[.val (.ref a0r), .val (.ref ca)] [])) (ef_rmSI_1 m a0r ca) ?_
  refine Goes.step (fun _ k => pw_aloadN X0.here hx (hb hby d2_0) rfl rfl _ (pw_aloadN X0.here hx (hb hby d2_1) rfl rfl _ (pw_iconst X0.here hx (v := (0 : Int32)) (hb hby d2_2) rfl _ (pw_aloadN X0.here hx (hb hby d2_3) rfl rfl _ k)))) ?_
  obtain ⟨c1, Ar1, -, Sz1, Nn1, -, -⟩ := id Vc
  have len1 := X0.arraylength hx (by rw [e0]; exact Ar1.1) (State.isArrayOf_alike hZ.alike Ar1.2.1) (g := (mkF m 4 #[.val (.ref a0r), .val (.ref ca)] [(.ref ca), (.int 0), (.ref ca), (.ref a0r)])) rfl rfl (hb hby d2_4)
  rw [len_of Sz1 Nn1] at len1
  refine Goes.step (B := s₁.setTop (mkF m 5 #[.val (.ref a0r), .val (.ref ca)] [(.int 1), (.int 0), (.ref ca), (.ref a0r)])) len1 ?_
  refine Goes.step (fun _ k => pw_aconstNull X0.here hx (hb hby d2_5) _ k) ?_
  obtain ⟨_, _, ⟨T2, qL2, qk2, qn2⟩, -, X2, ⟨Lc2, hQ2, ql2, qy2, qz2⟩, st2⟩ := X0.specialBack hx (y := (⟨"java/lang/String", "<init>", "([CIILjava/lang/Void;)V"⟩ : MethodName)) rfl hown (mvT hZ (own_w11 hw)) (mvT hZ (own_w12 hw)) (mvT hZ (own_w14 hw)) (by decide) (backOf (W := 0) (rmSJ_1 l Z a0 hw [] a0r ca kc cs ch0 h0 n0 O0 Er gr Fr_value Fr_coder Vc Sc hcs hk0) hZ (own_w14 hw) (own_w7 hw) (by decide) (by decide)) (g := (mkF m 6 #[.val (.ref a0r), .val (.ref ca)] [.null, (.int 1), (.int 0), (.ref ca), (.ref a0r)])) rfl (by rw [hml]; rfl) (Steps.refl _) (a := a0r) (argsL := [(.ref ca), (.int 0), (.int 1), .null]) (rest := []) (lenOf pd_0 rfl) rfl (by show 2 * 0 + _ ≤ _; exact Nat.le_of_eq rfl) (hb hby d2_6) (fun _ _ => ⟨rfl, e0, (by decide : 0 + 1 ≤ _), (by decide : 0 + 1 ≤ _)⟩)
  dsimp only [Pt.U, Pt.locs, Pt.cells, Pt.slots] at X2 ql2 qy2 qz2 st2 hQ2
  rw [ql2, qy2, qz2] at X2
  obtain ⟨rfl, Nq2, Kp2, Ex2, sv2, sk2, Fsv2, Fsc2, Vsv2⟩ := hQ2
  have O_2 := O0.keep Kp2 (allS gr all0)
  have K_2 := (Keep.refl h0 [a0r]).trans Kp2 (allS (P := fun x => x ∈ _ ∨ _) (Or.inl (List.mem_of_getElem? (i := 0) rfl)) all0)
  have N2 := Fr.app N0 Nq2
  refine Goes.via (B := T2.setTop (mkF m 9 #[.val (.ref a0r), .val (.ref ca)] [])) st2 ?_
  exact Goes.retV X2 hx rfl Bd.returns hlk (hb hby d2_9) (by decide) (by decide) (⟨rfl, N2, K_2, Ex2, sv2, sk2, Fsv2, Fsc2, Vsv2⟩)
theorem ef_rmC5_2 (m : MethodId) (x0 : Addr) (x1 : Int32) (x2 : Addr) (x3 : Int32) (x4 : Int32) : entryFrame m #[(.ref x0), (.int x1), (.ref x2), (.int x3), (.int x4)] 7 = mkF m 0 #[.val (.ref x0), .val (.int x1), .val (.ref x2), .val (.int x3), .val (.int x4), .unset, .unset] [] := by first | (simp [entryFrame, mkF, argsToLocals, Value.category]; done) | rfl
def QC5_2 (Z : State) (ca : Addr) (kc : ClassId) (bb : Addr) (kb : ClassId) (ch0 : Int32) (ch1 : Int32) (h0 : Heap) (n0 : Nat) (v : Option Value) (h : Heap) (L : List Loc) : Prop := v = some (.int (2 : Int32)) ∧ Fr n0 L ∧ Keep h0 h [bb] ∧ Arv Z h bb kb .byte (2 : Int32) [.int (own_b ch0), .int (own_b ch1)] (.int (0 : Int32))
set_option maxRecDepth 65536 in
set_option maxHeartbeats 40000000 in
theorem rmC5_2 (l : Launch) (Z : State) (a0 : Array Value) (hw : ∀ d ∈ tables_1, d.before a0 Z = true) (ws : List Jvm.Cond) (ca : Addr) (kc : ClassId) (bb : Addr) (kb : ClassId) (ch0 : Int32) (ch1 : Int32) (h0 : Heap) (n0 : Nat) (O0 : Old Z n0 h0) (Vc : Arv Z h0 ca kc .char (2 : Int32) [.int ch0, .int ch1] (.int (0 : Int32))) (Vb : Arv Z h0 bb kb .byte (2 : Int32) [.int (0 : Int32), .int (0 : Int32)] (.int (0 : Int32))) (gb : n0 ≤ bb) (ncb : ca ≠ bb) (hk0 : own_ok ch0) (hk1 : own_ok ch1) :
    MetFree l (⟨"java/lang/StringUTF16", "compress", "([CI[BII)I"⟩ : MethodName) (head1 (Jvm.Cond.code (⟨"java/lang/StringUTF16", "compress", "([CI[BII)I"⟩ : MethodName) jdk_52_method_21_code 7 (some .int) :: ws) ({ frames := 0, cells := 0, slots := 0, locals := 0 } : Room)) (fun a U => a = #[(.ref ca), (.int 0), (.ref bb), (.int 0), (.int 2)] ∧ Z.Warmed39 U.vm ∧ U.heap = h0) (fun _ _ _ _ _ => True) (fun _ U o U' => ∃ v L, o = .returned v ∧ QC5_2 Z ca kc bb kb ch0 ch1 h0 n0 v U'.heap L ∧ FrameEnd U o U' L ({ frames := 0, cells := 0, slots := 0, locals := 0 } : Room).cells ({ frames := 0, cells := 0, slots := 0, locals := 0 } : Room).slots) := by
  refine MetFree.of_bodySF (plainFor_of_name pn_StringUTF16) hisR ?_
  intro p e s m args below meth c s₁ Bd hml0 hP hK
  obtain ⟨rfl, hZ, hh⟩ := hP
  have hx := Bd.exec
  have hby := Bd.bytes
  have hlk : meth.locks = false := BodyLoose.notSynchronized Bd
  have hml : c.maxLocals = 7 := hml0
  have hown : s.vm.findClass "java/lang/StringUTF16" = some m.cls := findClass_of_methodNamed Bd.named
  have hnm := (name_of_methodNamed Bd.named Bd.method).1
  have X0 : Stand p l e ({ frames := 0, cells := 0, slots := 0, locals := 0 } : Room) s m #[(.ref ca), (.int 0), (.ref bb), (.int 0), (.int 2)] below meth c s₁ [] 0 0 := Stand.of_body Bd
  have e0 : s₁.heap = h0 := by rw [← hh, Bd.state]; rfl
  have N0 := Fr.nil n0
  show Goes p e below s (QC5_2 Z ca kc bb kb ch0 ch1 h0 n0) ({ frames := 0, cells := 0, slots := 0, locals := 0 } : Room).cells ({ frames := 0, cells := 0, slots := 0, locals := 0 } : Room).slots (s₁.setTop (entryFrame m #[(.ref ca), (.int 0), (.ref bb), (.int 0), (.int 2)] 7))
  refine Goes.enter (g' := (mkF m 0 #[.val (.ref ca), .val (.int 0), .val (.ref bb), .val (.int 0), .val (.int 2), .unset, .unset] [])) (ef_rmC5_2 m ca ((0 : Int32)) bb ((0 : Int32)) ((2 : Int32))) ?_
  refine Goes.step (fun _ k => pw_iconst X0.here hx (v := (0 : Int32)) (hb hby d6_0) rfl _ (pw_istore X0.here hx (l' := #[.val (.ref ca), .val (.int 0), .val (.ref bb), .val (.int 0), .val (.int 2), .val (.int 0), .unset]) (hb hby d6_1) rfl _ (pw_iload X0.here hx (hb hby d6_3) rfl _ (pw_iload X0.here hx (hb hby d6_5) rfl _ (pw_icmpNo X0.here hx (hb hby d6_7) (tlt (by decide)).2.1 _ (pw_aloadN X0.here hx (hb hby d6_10) rfl rfl _ k)))))) ?_
  refine Goes.step (fun _ k => pw_iloadN X0.here hx (hb hby d6_11) rfl _ k) ?_
  obtain ⟨c1, Ar1, -, Sz1, Nn1, Hs1, -⟩ := id Vc
  have hin1 : ¬ ((0 : Int32) < 0 ∨ c1.slots.size ≤ ((0 : Int32)).toNatClampNeg) := inb_of Sz1 ⟨by decide, by decide⟩
  refine Goes.step (B := s₁.setTop (mkF m 13 #[.val (.ref ca), .val (.int 0), .val (.ref bb), .val (.int 0), .val (.int 2), .val (.int 0), .unset] [(.int ch0)])) (X0.caload hx (j := (0 : Int32)) (v := (.int ch0)) (by rw [e0]; exact Ar1.1) (State.isArrayOf_alike hZ.alike Ar1.2.1) Ar1.2.2 hin1 (Has.at Hs1 hin1 rfl) (g := (mkF m 12 #[.val (.ref ca), .val (.int 0), .val (.ref bb), .val (.int 0), .val (.int 2), .val (.int 0), .unset] [(.int 0), (.ref ca)])) rfl rfl (hb hby d6_12)) ?_
  refine Goes.step (fun _ k => pw_istore X0.here hx (l' := #[.val (.ref ca), .val (.int 0), .val (.ref bb), .val (.int 0), .val (.int 2), .val (.int 0), .val (.int ch0)]) (hb hby d6_13) rfl _ (pw_iload X0.here hx (hb hby d6_15) rfl _ (pw_sipush X0.here hx (v := (255 : Int32)) (hb hby d6_17) rfl _ (pw_icmpYes X0.here hx (pc' := 26) (hb hby d6_20) (flt (own_le hk0)).2.2.2 (by decide) (by decide) _ (pw_aloadN X0.here hx (hb hby d6_26) rfl rfl _ (pw_iloadN X0.here hx (hb hby d6_27) rfl _ k)))))) ?_
  refine Goes.step (fun _ k => pw_iload X0.here hx (hb hby d6_28) rfl _ k) ?_
  refine Goes.step (B := s₁.setTop (mkF m 31 #[.val (.ref ca), .val (.int 0), .val (.ref bb), .val (.int 0), .val (.int 2), .val (.int 0), .val (.int ch0)] [(.int (ch0.toInt8.toInt32)), (.int 0), (.ref bb)])) (fun _ k => XS.i2b X0.here hx rfl (hb hby d6_30) rfl k) ?_
  obtain ⟨c2, Ar2, q2, Sz2, Nn2, Hs2, Gs2⟩ := id Vb
  have hin2 : ¬ ((0 : Int32) < 0 ∨ c2.slots.size ≤ ((0 : Int32)).toNatClampNeg) := inb_of Sz2 ⟨by decide, by decide⟩
  obtain ⟨T2, h2, X2, e2, W2, st2⟩ := stB X0 hx hZ e0 Ar2 (j := (0 : Int32)) hin2 (g := (mkF m 31 #[.val (.ref ca), .val (.int 0), .val (.ref bb), .val (.int 0), .val (.int 2), .val (.int 0), .val (.int ch0)] [(.int (ch0.toInt8.toInt32)), (.int 0), (.ref bb)])) rfl rfl (hb hby d6_31)
  have V2 : Arv Z h2 bb kb .byte (2 : Int32) [(.int (nar .byte (ch0.toInt8.toInt32))), (.int 0)] (.int 0) := Arv.set Ar2 q2 Sz2 Nn2 Hs2 Gs2 (fits_nar_byte _) W2 0 rfl (Nat.le_of_ble_eq_true rfl)
  have N2 := Fr.snoc X2 N0 gb
  have O_2 := O0.wr W2 gb
  have K_2 := (Keep.refl h0 [bb]).wr W2 (Or.inl (List.mem_of_getElem? (i := 0) rfl))
  refine Goes.step (B := T2.setTop (mkF m 32 #[.val (.ref ca), .val (.int 0), .val (.ref bb), .val (.int 0), .val (.int 2), .val (.int 0), .val (.int ch0)] [])) st2 ?_
  refine Goes.step (fun _ k => pw_iinc X2.here hx (l' := #[.val (.ref ca), .val (.int 1), .val (.ref bb), .val (.int 0), .val (.int 2), .val (.int 0), .val (.int ch0)]) (hb hby d6_32) rfl rfl _ (pw_iinc X2.here hx (l' := #[.val (.ref ca), .val (.int 1), .val (.ref bb), .val (.int 1), .val (.int 2), .val (.int 0), .val (.int ch0)]) (hb hby d6_35) rfl rfl _ (pw_iinc X2.here hx (l' := #[.val (.ref ca), .val (.int 1), .val (.ref bb), .val (.int 1), .val (.int 2), .val (.int 1), .val (.int ch0)]) (hb hby d6_38) rfl rfl _ (pw_goto X2.here hx (pc' := 3) (hb hby d6_41) (by decide) (by decide) _ (pw_iload X2.here hx (hb hby d6_3) rfl _ (pw_iload X2.here hx (hb hby d6_5) rfl _ k)))))) ?_
  refine Goes.step (fun _ k => pw_icmpNo X2.here hx (hb hby d6_7) (tlt (by decide)).2.1 _ (pw_aloadN X2.here hx (hb hby d6_10) rfl rfl _ (pw_iloadN X2.here hx (hb hby d6_11) rfl _ k))) ?_
  have f3 := (Vc.other W2 ncb)
  obtain ⟨c4, Ar4, -, Sz4, Nn4, Hs4, -⟩ := id f3
  have hin4 : ¬ ((1 : Int32) < 0 ∨ c4.slots.size ≤ ((1 : Int32)).toNatClampNeg) := inb_of Sz4 ⟨by decide, by decide⟩
  refine Goes.step (B := T2.setTop (mkF m 13 #[.val (.ref ca), .val (.int 1), .val (.ref bb), .val (.int 1), .val (.int 2), .val (.int 1), .val (.int ch0)] [(.int ch1)])) (X2.caload hx (j := (1 : Int32)) (v := (.int ch1)) (by rw [e2]; exact Ar4.1) (State.isArrayOf_alike hZ.alike Ar4.2.1) Ar4.2.2 hin4 (Has.at Hs4 hin4 rfl) (g := (mkF m 12 #[.val (.ref ca), .val (.int 1), .val (.ref bb), .val (.int 1), .val (.int 2), .val (.int 1), .val (.int ch0)] [(.int 1), (.ref ca)])) rfl rfl (hb hby d6_12)) ?_
  refine Goes.step (fun _ k => pw_istore X2.here hx (l' := #[.val (.ref ca), .val (.int 1), .val (.ref bb), .val (.int 1), .val (.int 2), .val (.int 1), .val (.int ch1)]) (hb hby d6_13) rfl _ (pw_iload X2.here hx (hb hby d6_15) rfl _ (pw_sipush X2.here hx (v := (255 : Int32)) (hb hby d6_17) rfl _ (pw_icmpYes X2.here hx (pc' := 26) (hb hby d6_20) (flt (own_le hk1)).2.2.2 (by decide) (by decide) _ (pw_aloadN X2.here hx (hb hby d6_26) rfl rfl _ (pw_iloadN X2.here hx (hb hby d6_27) rfl _ k)))))) ?_
  refine Goes.step (fun _ k => pw_iload X2.here hx (hb hby d6_28) rfl _ k) ?_
  refine Goes.step (B := T2.setTop (mkF m 31 #[.val (.ref ca), .val (.int 1), .val (.ref bb), .val (.int 1), .val (.int 2), .val (.int 1), .val (.int ch1)] [(.int (ch1.toInt8.toInt32)), (.int 1), (.ref bb)])) (fun _ k => XS.i2b X2.here hx rfl (hb hby d6_30) rfl k) ?_
  obtain ⟨c5, Ar5, q5, Sz5, Nn5, Hs5, Gs5⟩ := id V2
  have hin5 : ¬ ((1 : Int32) < 0 ∨ c5.slots.size ≤ ((1 : Int32)).toNatClampNeg) := inb_of Sz5 ⟨by decide, by decide⟩
  obtain ⟨T5, h5, X5, e5, W5, st5⟩ := stB X2 hx hZ e2 Ar5 (j := (1 : Int32)) hin5 (g := (mkF m 31 #[.val (.ref ca), .val (.int 1), .val (.ref bb), .val (.int 1), .val (.int 2), .val (.int 1), .val (.int ch1)] [(.int (ch1.toInt8.toInt32)), (.int 1), (.ref bb)])) rfl rfl (hb hby d6_31)
  have V5 : Arv Z h5 bb kb .byte (2 : Int32) [(.int (nar .byte (ch0.toInt8.toInt32))), (.int (nar .byte (ch1.toInt8.toInt32)))] (.int 0) := Arv.set Ar5 q5 Sz5 Nn5 Hs5 Gs5 (fits_nar_byte _) W5 1 rfl (Nat.le_of_ble_eq_true rfl)
  have N5 := Fr.snoc X5 N2 gb
  have O_5 := O_2.wr W5 gb
  have K_5 := K_2.wr W5 (Or.inl (List.mem_of_getElem? (i := 0) rfl))
  refine Goes.step (B := T5.setTop (mkF m 32 #[.val (.ref ca), .val (.int 1), .val (.ref bb), .val (.int 1), .val (.int 2), .val (.int 1), .val (.int ch1)] [])) st5 ?_
  refine Goes.step (fun _ k => pw_iinc X5.here hx (l' := #[.val (.ref ca), .val (.int 2), .val (.ref bb), .val (.int 1), .val (.int 2), .val (.int 1), .val (.int ch1)]) (hb hby d6_32) rfl rfl _ (pw_iinc X5.here hx (l' := #[.val (.ref ca), .val (.int 2), .val (.ref bb), .val (.int 2), .val (.int 2), .val (.int 1), .val (.int ch1)]) (hb hby d6_35) rfl rfl _ (pw_iinc X5.here hx (l' := #[.val (.ref ca), .val (.int 2), .val (.ref bb), .val (.int 2), .val (.int 2), .val (.int 2), .val (.int ch1)]) (hb hby d6_38) rfl rfl _ (pw_goto X5.here hx (pc' := 3) (hb hby d6_41) (by decide) (by decide) _ (pw_iload X5.here hx (hb hby d6_3) rfl _ (pw_iload X5.here hx (hb hby d6_5) rfl _ k)))))) ?_
  refine Goes.step (fun _ k => pw_icmpYes X5.here hx (pc' := 44) (hb hby d6_7) (flt (by decide)).2.1 (by decide) (by decide) _ (pw_iload X5.here hx (hb hby d6_44) rfl _ k)) ?_
  exact Goes.retI X5 hx e5 Bd.returns hlk (hb hby d6_46) (by decide) (by decide) (⟨rfl, N5, K_5, V5⟩)
theorem ef_rmC3_2 (m : MethodId) (x0 : Addr) (x1 : Int32) (x2 : Int32) : entryFrame m #[(.ref x0), (.int x1), (.int x2)] 6 = mkF m 0 #[.val (.ref x0), .val (.int x1), .val (.int x2), .unset, .unset, .unset] [] := by first | (simp [entryFrame, mkF, argsToLocals, Value.category]; done) | rfl
def QC3_2 (Z : State) (ca : Addr) (kc : ClassId) (ch0 : Int32) (ch1 : Int32) (h0 : Heap) (n0 : Nat) (v : Option Value) (h : Heap) (L : List Loc) : Prop := ∃ (b : Addr) (k : ClassId), v = some (.ref b) ∧ Fr n0 L ∧ Keep h0 h [] ∧ n0 ≤ b ∧ h0.size ≤ b ∧ Arv Z h b k .byte (2 : Int32) [(.int (own_b ch0)), (.int (own_b ch1))] (.int 0)
set_option maxRecDepth 65536 in
set_option maxHeartbeats 40000000 in
theorem rmC3_2 (l : Launch) (Z : State) (a0 : Array Value) (hw : ∀ d ∈ tables_1, d.before a0 Z = true) (ws : List Jvm.Cond) (ca : Addr) (kc : ClassId) (ch0 : Int32) (ch1 : Int32) (h0 : Heap) (n0 : Nat) (O0 : Old Z n0 h0) (Vc : Arv Z h0 ca kc .char (2 : Int32) [.int ch0, .int ch1] (.int (0 : Int32))) (hk0 : own_ok ch0) (hk1 : own_ok ch1) :
    MetFree l (⟨"java/lang/StringUTF16", "compress", "([CII)[B"⟩ : MethodName) (head1 (Jvm.Cond.code (⟨"java/lang/StringUTF16", "compress", "([CII)[B"⟩ : MethodName) jdk_52_method_16_code 6 (some (.array .byte)) :: ws) ({ frames := 1, cells := 1, slots := 2, locals := 18 } : Room)) (fun a U => a = #[(.ref ca), (.int 0), (.int 2)] ∧ Z.Warmed39 U.vm ∧ U.heap = h0) (fun _ _ _ _ _ => True) (fun _ U o U' => ∃ v L, o = .returned v ∧ QC3_2 Z ca kc ch0 ch1 h0 n0 v U'.heap L ∧ FrameEnd U o U' L ({ frames := 1, cells := 1, slots := 2, locals := 18 } : Room).cells ({ frames := 1, cells := 1, slots := 2, locals := 18 } : Room).slots) := by
  refine MetFree.of_bodySF (plainFor_of_name pn_StringUTF16) hisR ?_
  intro p e s m args below meth c s₁ Bd hml0 hP hK
  obtain ⟨rfl, hZ, hh⟩ := hP
  have hx := Bd.exec
  have hby := Bd.bytes
  have hlk : meth.locks = false := BodyLoose.notSynchronized Bd
  have hml : c.maxLocals = 6 := hml0
  have hown : s.vm.findClass "java/lang/StringUTF16" = some m.cls := findClass_of_methodNamed Bd.named
  have hnm := (name_of_methodNamed Bd.named Bd.method).1
  have X0 : Stand p l e ({ frames := 1, cells := 1, slots := 2, locals := 18 } : Room) s m #[(.ref ca), (.int 0), (.int 2)] below meth c s₁ [] 0 0 := Stand.of_body Bd
  have e0 : s₁.heap = h0 := by rw [← hh, Bd.state]; rfl
  have N0 := Fr.nil n0
  show Goes p e below s (QC3_2 Z ca kc ch0 ch1 h0 n0) ({ frames := 1, cells := 1, slots := 2, locals := 18 } : Room).cells ({ frames := 1, cells := 1, slots := 2, locals := 18 } : Room).slots (s₁.setTop (entryFrame m #[(.ref ca), (.int 0), (.int 2)] 6))
  refine Goes.enter (g' := (mkF m 0 #[.val (.ref ca), .val (.int 0), .val (.int 2), .unset, .unset, .unset] [])) (ef_rmC3_2 m ca ((0 : Int32)) ((2 : Int32))) ?_
  refine Goes.step (fun _ k => pw_iloadN X0.here hx (hb hby d5_0) rfl _ k) ?_
  obtain ⟨T1, h1, k1, X1, e1, E1, A1, st1⟩ := newP (aty := .byte) X0 hx hZ (own_w23 hw) e0 (g := (mkF m 1 #[.val (.ref ca), .val (.int 0), .val (.int 2), .unset, .unset, .unset] [(.int 2)])) rfl (hb hby d5_1) rfl (by decide) (cap := 2) (by decide) (by decide) (by decide) (by decide)
  obtain ⟨b1, g1⟩ : ∃ z, z = h0.size := ⟨_, rfl⟩
  rw [← g1] at A1 st1
  have ne_ca_b1 : ca ≠ b1 := Nat.ne_of_lt (Nat.lt_of_lt_of_le Vc.lt (Nat.le_of_eq g1.symm))
  have g_b1 : n0 ≤ b1 := Nat.le_trans (own_z O0) (Nat.le_of_eq g1.symm)
  have O_1 := O0.ext E1
  have sz_b1 : h0.size ≤ b1 := Nat.le_trans (Keep.refl h0 []).1 (Nat.le_of_eq g1.symm)
  have K_1 := (Keep.refl h0 []).ext E1
  have V_b1 : Arv Z h1 b1 k1 .byte (2 : Int32) [(.int 0), (.int 0)] (.int 0) := (Arv.new A1 (by decide)).pad (pad_rep [] (.int 0) 2)
  refine Goes.step (B := T1.setTop (mkF m 3 #[.val (.ref ca), .val (.int 0), .val (.int 2), .unset, .unset, .unset] [(.ref b1)])) st1 ?_
  refine Goes.step (fun _ k => pw_astoreN X1.here hx (l' := #[.val (.ref ca), .val (.int 0), .val (.int 2), .val (.ref b1), .unset, .unset]) (hb hby d5_3) rfl rfl _ (pw_aloadN X1.here hx (hb hby d5_4) rfl rfl _ (pw_iloadN X1.here hx (hb hby d5_5) rfl _ (pw_aloadN X1.here hx (hb hby d5_6) rfl rfl _ (pw_iconst X1.here hx (v := (0 : Int32)) (hb hby d5_7) rfl _ (pw_iloadN X1.here hx (hb hby d5_8) rfl _ k)))))) ?_
  have f3 := (Vc.ext E1)
  obtain ⟨_, _, ⟨T2, qL2, qk2, qn2⟩, -, X2, ⟨Lc2, hQ2, ql2, qy2, qz2⟩, st2⟩ := Jvm.LawKit.callS X1 hx (y := (⟨"java/lang/StringUTF16", "compress", "([CI[BII)I"⟩ : MethodName)) hown (mvT hZ (own_w24 hw)) (mvT hZ (own_w25 hw)) (mvT hZ (own_w21 hw)) (mvT hZ (own_w26 hw)) (by decide) (backOf (W := 0) (rmC5_2 l Z a0 hw [] ca kc b1 k1 ch0 ch1 h1 n0 O_1 f3 V_b1 g_b1 ne_ca_b1 hk0 hk1) hZ (own_w26 hw) (own_w21 hw) (by decide) (by decide)) (g := (mkF m 9 #[.val (.ref ca), .val (.int 0), .val (.int 2), .val (.ref b1), .unset, .unset] [(.int 2), (.int 0), (.ref b1), (.int 0), (.ref ca)])) rfl (by rw [hml]; rfl) (argsL := [(.ref ca), (.int 0), (.ref b1), (.int 0), (.int 2)]) (rest := []) (lenOf pd_1 rfl) rfl (by show 2 * 0 + _ ≤ _; exact Nat.le_of_eq rfl) (hb hby d5_9) (fun _ _ => ⟨rfl, e1, (by decide : 1 + 0 ≤ _), (by decide : 2 + 0 ≤ _)⟩)
  dsimp only [Pt.U, Pt.locs, Pt.cells, Pt.slots] at X2 ql2 qy2 qz2 st2 hQ2
  rw [ql2, qy2, qz2] at X2
  obtain ⟨rfl, Nq2, Kp2, Vq2⟩ := hQ2
  have O_2 := O_1.keep Kp2 (allS g_b1 all0)
  have K_2 := K_1.trans Kp2 (allS (P := fun x => x ∈ _ ∨ _) (Or.inr sz_b1) all0)
  have N2 := Fr.app N0 Nq2
  refine Goes.step (B := T2.setTop (mkF m 12 #[.val (.ref ca), .val (.int 0), .val (.int 2), .val (.ref b1), .unset, .unset] [(.int 2)])) st2 ?_
  refine Goes.step (fun _ k => pw_istore X2.here hx (l' := #[.val (.ref ca), .val (.int 0), .val (.int 2), .val (.ref b1), .val (.int 2), .unset]) (hb hby d5_12) rfl _ (pw_iload X2.here hx (hb hby d5_14) rfl _ (pw_iloadN X2.here hx (hb hby d5_16) rfl _ (pw_icmpYes X2.here hx (pc' := 57) (hb hby d5_17) (teq (by decide)).1 (by decide) (by decide) _ (pw_aloadN X2.here hx (hb hby d5_57) rfl rfl _ k))))) ?_
  exact Goes.retA X2 hx rfl Bd.returns rfl rfl hlk (hb hby d5_58) (by decide) (by decide) (⟨b1, k1, rfl, N2, K_2, g_b1, sz_b1, Vq2⟩)
theorem ef_rmCF_2 (m : MethodId) (x0 : Addr) (x1 : Int32) : entryFrame m #[(.ref x0), (.int x1)] 2 = mkF m 0 #[.val (.ref x0), .val (.int x1)] [] := by first | (simp [entryFrame, mkF, argsToLocals, Value.category]; done) | rfl
def QCF_2 (Z : State) (bb : Addr) (kb : ClassId) (ls : List Value) (h0 : Heap) (n0 : Nat) (v : Option Value) (h : Heap) (L : List Loc) : Prop := v = some (.int 0) ∧ Fr n0 L ∧ h = h0
set_option maxRecDepth 65536 in
set_option maxHeartbeats 40000000 in
theorem rmCF_2 (l : Launch) (Z : State) (a0 : Array Value) (hw : ∀ d ∈ tables_1, d.before a0 Z = true) (ws : List Jvm.Cond) (bb : Addr) (kb : ClassId) (ls : List Value) (h0 : Heap) (n0 : Nat) (O0 : Old Z n0 h0) (Vb : Arv Z h0 bb kb .byte (2 : Int32) ls (.int (0 : Int32))) :
    MetFree l (⟨"java/lang/StringUTF16", "coderFromArrayLen", "([BI)B"⟩ : MethodName) (head1 (Jvm.Cond.code (⟨"java/lang/StringUTF16", "coderFromArrayLen", "([BI)B"⟩ : MethodName) jdk_52_method_15_code 2 (some .byte) :: ws) ({ frames := 0, cells := 0, slots := 0, locals := 0 } : Room)) (fun a U => a = #[(.ref bb), (.int 2)] ∧ Z.Warmed39 U.vm ∧ U.heap = h0) (fun _ _ _ _ _ => True) (fun _ U o U' => ∃ v L, o = .returned v ∧ QCF_2 Z bb kb ls h0 n0 v U'.heap L ∧ FrameEnd U o U' L ({ frames := 0, cells := 0, slots := 0, locals := 0 } : Room).cells ({ frames := 0, cells := 0, slots := 0, locals := 0 } : Room).slots) := by
  refine MetFree.of_bodySF (plainFor_of_name pn_StringUTF16) hisR ?_
  intro p e s m args below meth c s₁ Bd hml0 hP hK
  obtain ⟨rfl, hZ, hh⟩ := hP
  have hx := Bd.exec
  have hby := Bd.bytes
  have hlk : meth.locks = false := BodyLoose.notSynchronized Bd
  have hml : c.maxLocals = 2 := hml0
  have hown : s.vm.findClass "java/lang/StringUTF16" = some m.cls := findClass_of_methodNamed Bd.named
  have hnm := (name_of_methodNamed Bd.named Bd.method).1
  have X0 : Stand p l e ({ frames := 0, cells := 0, slots := 0, locals := 0 } : Room) s m #[(.ref bb), (.int 2)] below meth c s₁ [] 0 0 := Stand.of_body Bd
  have e0 : s₁.heap = h0 := by rw [← hh, Bd.state]; rfl
  have N0 := Fr.nil n0
  show Goes p e below s (QCF_2 Z bb kb ls h0 n0) ({ frames := 0, cells := 0, slots := 0, locals := 0 } : Room).cells ({ frames := 0, cells := 0, slots := 0, locals := 0 } : Room).slots (s₁.setTop (entryFrame m #[(.ref bb), (.int 2)] 2))
  refine Goes.enter (g' := (mkF m 0 #[.val (.ref bb), .val (.int 2)] [])) (ef_rmCF_2 m bb ((2 : Int32))) ?_
  refine Goes.step (fun _ k => pw_iloadN X0.here hx (hb hby d7_0) rfl _ (pw_aloadN X0.here hx (hb hby d7_1) rfl rfl _ k)) ?_
  obtain ⟨c1, Ar1, -, Sz1, Nn1, -, -⟩ := id Vb
  have len1 := X0.arraylength hx (by rw [e0]; exact Ar1.1) (State.isArrayOf_alike hZ.alike Ar1.2.1) (g := (mkF m 2 #[.val (.ref bb), .val (.int 2)] [(.ref bb), (.int 2)])) rfl rfl (hb hby d7_2)
  rw [len_of Sz1 Nn1] at len1
  refine Goes.step (B := s₁.setTop (mkF m 3 #[.val (.ref bb), .val (.int 2)] [(.int 2), (.int 2)])) len1 ?_
  refine Goes.step (B := s₁.setTop (mkF m 4 #[.val (.ref bb), .val (.int 2)] [(.int 0)])) (fun _ k => XS.isub X0.here hx rfl (hb hby d7_3) rfl k) ?_
  refine Goes.step (fun _ k => pw_bipush X0.here hx (v := (31 : Int32)) (hb hby d7_4) rfl _ k) ?_
  refine Goes.step (B := s₁.setTop (mkF m 7 #[.val (.ref bb), .val (.int 2)] [(.int 0)])) (fun _ k => XS.iushr X0.here hx rfl (hb hby d7_6) rfl k) ?_
  refine Goes.step (B := s₁.setTop (mkF m 8 #[.val (.ref bb), .val (.int 2)] [(.int 0)])) (fun _ k => XS.i2b X0.here hx rfl (hb hby d7_7) rfl k) ?_
  exact Goes.retN X0 hx e0 (t := .byte) Bd.returns (by simp) hlk (hb hby d7_8) (by decide) (by decide) (⟨rfl, N0, rfl⟩)
theorem ef_rmSJ_2 (m : MethodId) (x0 : Addr) (x1 : Addr) (x2 : Int32) (x3 : Int32) : entryFrame m #[(.ref x0), (.ref x1), (.int x2), (.int x3), .null] 6 = mkF m 0 #[.val (.ref x0), .val (.ref x1), .val (.int x2), .val (.int x3), .val .null, .unset] [] := by first | (simp [entryFrame, mkF, argsToLocals, Value.category]; done) | rfl
def QSJ_2 (Z : State) (a0r : Addr) (ca : Addr) (kc : ClassId) (cs : Int32) (ch0 : Int32) (ch1 : Int32) (h0 : Heap) (n0 : Nat) (v : Option Value) (h : Heap) (L : List Loc) : Prop := v = none ∧ Fr n0 L ∧ Keep h0 h [a0r] ∧ Exa Z h a0r "java/lang/String" ∧ ∃ (vb : Addr) (kv : ClassId), Fld Z h a0r "java/lang/String" "value" "[B" (.ref vb) ∧ Fld Z h a0r "java/lang/String" "coder" "B" (.int (0 : Int32)) ∧ Arv Z h vb kv .byte (2 : Int32) [.int (own_b ch0), .int (own_b ch1)] (.int (0 : Int32))
set_option maxRecDepth 65536 in
set_option maxHeartbeats 40000000 in
theorem rmSJ_2 (l : Launch) (Z : State) (a0 : Array Value) (hw : ∀ d ∈ tables_1, d.before a0 Z = true) (ws : List Jvm.Cond) (a0r : Addr) (ca : Addr) (kc : ClassId) (cs : Int32) (ch0 : Int32) (ch1 : Int32) (h0 : Heap) (n0 : Nat) (O0 : Old Z n0 h0) (Er : Exa Z h0 a0r "java/lang/String") (gr : n0 ≤ a0r) (Fr_value : Fld Z h0 a0r "java/lang/String" "value" "[B" .null) (Fr_coder : Fld Z h0 a0r "java/lang/String" "coder" "B" (.int (0 : Int32))) (Vc : Arv Z h0 ca kc .char (2 : Int32) [.int ch0, .int ch1] (.int (0 : Int32))) (Sc : Sta Z h0 "java/lang/String" "COMPACT_STRINGS" "Z" (.int cs)) (hcs : ¬ cs = (0 : Int32)) (hk0 : own_ok ch0) (hk1 : own_ok ch1) :
    MetFree l (⟨"java/lang/String", "<init>", "([CIILjava/lang/Void;)V"⟩ : MethodName) (head1 (Jvm.Cond.code (⟨"java/lang/String", "<init>", "([CIILjava/lang/Void;)V"⟩ : MethodName) jdk_42_method_149_code 6 none :: ws) ({ frames := 2, cells := 1, slots := 2, locals := 35 } : Room)) (fun a U => a = #[(.ref a0r), (.ref ca), (.int 0), (.int 2), .null] ∧ Z.Warmed39 U.vm ∧ U.heap = h0) (fun _ _ _ _ _ => True) (fun _ U o U' => ∃ v L, o = .returned v ∧ QSJ_2 Z a0r ca kc cs ch0 ch1 h0 n0 v U'.heap L ∧ FrameEnd U o U' L ({ frames := 2, cells := 1, slots := 2, locals := 35 } : Room).cells ({ frames := 2, cells := 1, slots := 2, locals := 35 } : Room).slots) := by
  refine MetFree.of_bodySF (plainFor_of_name pn_String) hisR ?_
  intro p e s m args below meth c s₁ Bd hml0 hP hK
  obtain ⟨rfl, hZ, hh⟩ := hP
  have hx := Bd.exec
  have hby := Bd.bytes
  have hlk : meth.locks = false := BodyLoose.notSynchronized Bd
  have hml : c.maxLocals = 6 := hml0
  have hown : s.vm.findClass "java/lang/String" = some m.cls := findClass_of_methodNamed Bd.named
  have hnm := (name_of_methodNamed Bd.named Bd.method).1
  have X0 : Stand p l e ({ frames := 2, cells := 1, slots := 2, locals := 35 } : Room) s m #[(.ref a0r), (.ref ca), (.int 0), (.int 2), .null] below meth c s₁ [] 0 0 := Stand.of_body Bd
  have e0 : s₁.heap = h0 := by rw [← hh, Bd.state]; rfl
  have N0 := Fr.nil n0
  show Goes p e below s (QSJ_2 Z a0r ca kc cs ch0 ch1 h0 n0) ({ frames := 2, cells := 1, slots := 2, locals := 35 } : Room).cells ({ frames := 2, cells := 1, slots := 2, locals := 35 } : Room).slots (s₁.setTop (entryFrame m #[(.ref a0r), (.ref ca), (.int 0), (.int 2), .null] 6))
  refine Goes.enter (g' := (mkF m 0 #[.val (.ref a0r), .val (.ref ca), .val (.int 0), .val (.int 2), .val .null, .unset] [])) (ef_rmSJ_2 m a0r ca ((0 : Int32)) ((2 : Int32))) ?_
  refine Goes.step (fun _ k => pw_aloadN X0.here hx (hb hby d3_0) rfl rfl _ k) ?_
  obtain ⟨T1, X1, e1, st1⟩ := initO X0 hx hZ hown (own_w15 hw) (own_w16 hw) (own_w17 hw) e0 (g := (mkF m 1 #[.val (.ref a0r), .val (.ref ca), .val (.int 0), .val (.int 2), .val .null, .unset] [(.ref a0r)])) rfl (by rw [hml]; rfl) rfl (hb hby d3_1) (by decide) (W := 0) (by show 2 * 0 + _ ≤ _; exact Nat.le_of_eq rfl) (by decide)
  refine Goes.step (B := T1.setTop (mkF m 4 #[.val (.ref a0r), .val (.ref ca), .val (.int 0), .val (.int 2), .val .null, .unset] [])) st1 ?_
  refine Goes.step (fun _ k => pw_iloadN X1.here hx (hb hby d3_4) rfl _ (pw_ifYes X1.here hx (pc' := 27) (hb hby d3_5) ((if0 _ _).trans (feq (by decide)).2) (by decide) (by decide) _ k)) ?_
  obtain ⟨T2, X2, e2, st2⟩ := getS2 X1 hx hZ hown (host := "") (Or.inl (own_w18 hw)) Via.refl e1 Sc (g := (mkF m 27 #[.val (.ref a0r), .val (.ref ca), .val (.int 0), .val (.int 2), .val .null, .unset] [])) rfl (hb hby d3_27)
  refine Goes.step (B := T2.setTop (mkF m 30 #[.val (.ref a0r), .val (.ref ca), .val (.int 0), .val (.int 2), .val .null, .unset] [(.int cs)])) st2 ?_
  refine Goes.step (fun _ k => pw_ifNo X2.here hx (hb hby d3_30) ((if0 _ _).trans (feq hcs).1) _ (pw_aloadN X2.here hx (hb hby d3_33) rfl rfl _ (pw_iloadN X2.here hx (hb hby d3_34) rfl _ (pw_iloadN X2.here hx (hb hby d3_35) rfl _ k)))) ?_
  have lt_a0r_3 := Er.lt
  have lt_ca_3 := Vc.lt
  obtain ⟨_, _, ⟨T3, qL3, qk3, qn3⟩, -, X3, ⟨Lc3, hQ3, ql3, qy3, qz3⟩, st3⟩ := Jvm.LawKit.callS X2 hx (y := (⟨"java/lang/StringUTF16", "compress", "([CII)[B"⟩ : MethodName)) hown (mvT hZ (own_w19 hw)) (mvT hZ (own_w20 hw)) (mvT hZ (own_w21 hw)) (mvT hZ (own_w22 hw)) (by decide) (backOf (W := 0) (rmC3_2 l Z a0 hw [] ca kc ch0 ch1 h0 n0 O0 Vc hk0 hk1) hZ (own_w22 hw) (own_w21 hw) (by decide) (by decide)) (g := (mkF m 36 #[.val (.ref a0r), .val (.ref ca), .val (.int 0), .val (.int 2), .val .null, .unset] [(.int 2), (.int 0), (.ref ca)])) rfl (by rw [hml]; rfl) (argsL := [(.ref ca), (.int 0), (.int 2)]) (rest := []) (lenOf pd_2 rfl) rfl (by show 2 * 0 + _ ≤ _; exact Nat.le_of_eq rfl) (hb hby d3_36) (fun _ _ => ⟨rfl, e2, (by decide : 0 + 1 ≤ _), (by decide : 0 + 2 ≤ _)⟩)
  dsimp only [Pt.U, Pt.locs, Pt.cells, Pt.slots] at X3 ql3 qy3 qz3 st3 hQ3
  rw [ql3, qy3, qz3] at X3
  obtain ⟨fb3, fk3, rfl, Nq3, Kp3, gb3, sb3, Vb3⟩ := hQ3
  have ne_a0r_fb3 : a0r ≠ fb3 := Nat.ne_of_lt (Nat.lt_of_lt_of_le lt_a0r_3 sb3)
  have ne_ca_fb3 : ca ≠ fb3 := Nat.ne_of_lt (Nat.lt_of_lt_of_le lt_ca_3 sb3)
  have O_3 := O0.keep Kp3 all0
  have K_3 := (Keep.refl h0 [a0r]).trans Kp3 all0
  have N3 := Fr.app N0 Nq3
  refine Goes.step (B := T3.setTop (mkF m 39 #[.val (.ref a0r), .val (.ref ca), .val (.int 0), .val (.int 2), .val .null, .unset] [(.ref fb3)])) st3 ?_
  refine Goes.step (fun _ k => pw_astore X3.here hx (l' := #[.val (.ref a0r), .val (.ref ca), .val (.int 0), .val (.int 2), .val .null, .val (.ref fb3)]) (hb hby d3_39) rfl rfl _ (pw_aloadN X3.here hx (hb hby d3_41) rfl rfl _ (pw_aload X3.here hx (hb hby d3_42) rfl rfl _ (pw_iloadN X3.here hx (hb hby d3_44) rfl _ k)))) ?_
  obtain ⟨_, _, ⟨T4, qL4, qk4, qn4⟩, -, X4, ⟨Lc4, hQ4, ql4, qy4, qz4⟩, st4⟩ := Jvm.LawKit.callS X3 hx (y := (⟨"java/lang/StringUTF16", "coderFromArrayLen", "([BI)B"⟩ : MethodName)) hown (mvT hZ (own_w27 hw)) (mvT hZ (own_w28 hw)) (mvT hZ (own_w21 hw)) (mvT hZ (own_w29 hw)) (by decide) (backOf (W := 1) (rmCF_2 l Z a0 hw [] fb3 fk3 [(.int (own_b ch0)), (.int (own_b ch1))] T3.heap n0 O_3 Vb3) hZ (own_w29 hw) (own_w21 hw) (by decide) (by decide)) (g := (mkF m 45 #[.val (.ref a0r), .val (.ref ca), .val (.int 0), .val (.int 2), .val .null, .val (.ref fb3)] [(.int 2), (.ref fb3), (.ref a0r)])) rfl (by rw [hml]; rfl) (argsL := [(.ref fb3), (.int 2)]) (rest := [(.ref a0r)]) (lenOf pd_3 rfl) rfl (by show 2 * 0 + _ ≤ _; exact Nat.le_of_eq rfl) (hb hby d3_45) (fun _ _ => ⟨rfl, rfl, (by decide : 1 + 0 ≤ _), (by decide : 2 + 0 ≤ _)⟩)
  dsimp only [Pt.U, Pt.locs, Pt.cells, Pt.slots] at X4 ql4 qy4 qz4 st4 hQ4
  rw [ql4, qy4, qz4] at X4
  obtain ⟨rfl, Nq4, eh4⟩ := hQ4
  have N4 := Fr.app N3 Nq4
  refine Goes.step (B := T4.setTop (mkF m 48 #[.val (.ref a0r), .val (.ref ca), .val (.int 0), .val (.int 2), .val .null, .val (.ref fb3)] [(.int 0), (.ref a0r)])) st4 ?_
  have f5 := (Er.keep Kp3)
  have f6 := (Fr_coder.keep Kp3 nin0)
  obtain ⟨T7, h7, X7, e7, W7, st7⟩ := putFN X4 hx hZ hown (own_w30 hw) Via.refl eh4 f6 f5 (Or.inr ⟨(own_w31 hw), rfl, hnm⟩) (own_w6 hw) (ty := .byte) (v' := (.int 0)) (by decide) rfl (by decide) (g := (mkF m 48 #[.val (.ref a0r), .val (.ref ca), .val (.int 0), .val (.int 2), .val .null, .val (.ref fb3)] [(.int 0), (.ref a0r)])) rfl rfl (hb hby d3_48)
  have Fw7 := f6.same W7
  have N7 := Fr.snoc X7 N4 gr
  have O_7 := O_3.wr W7 gr
  have K_7 := K_3.wr W7 (Or.inl (List.mem_of_getElem? (i := 0) rfl))
  refine Goes.step (B := T7.setTop (mkF m 51 #[.val (.ref a0r), .val (.ref ca), .val (.int 0), .val (.int 2), .val .null, .val (.ref fb3)] [])) st7 ?_
  refine Goes.step (fun _ k => pw_aloadN X7.here hx (hb hby d3_51) rfl rfl _ (pw_aload X7.here hx (hb hby d3_52) rfl rfl _ k)) ?_
  have f8 := (f5.wr W7)
  have f9 := ((Fr_value.keep Kp3 nin0).other W7 (Or.inr (slot_ne (Or.inr (own_w33 hw)) (Or.inr (own_w31 hw)) (by decide) (t := (.array .byte)) (t' := .byte) (by decide) (by decide))))
  obtain ⟨T10, h10, X10, e10, W10, st10⟩ := putF X7 hx hZ hown (host := "") (Or.inl (own_w32 hw)) Via.refl e7 f9 f8 (Or.inr ⟨(own_w33 hw), rfl, hnm⟩) (own_w6 hw) (ty := (.array .byte)) (by decide) rfl rfl (g := (mkF m 54 #[.val (.ref a0r), .val (.ref ca), .val (.int 0), .val (.int 2), .val .null, .val (.ref fb3)] [(.ref fb3), (.ref a0r)])) rfl rfl (hb hby d3_54)
  have Fw10 := f9.same W10
  have N10 := Fr.snoc X10 N7 gr
  have O_10 := O_7.wr W10 gr
  have K_10 := K_7.wr W10 (Or.inl (List.mem_of_getElem? (i := 0) rfl))
  refine Goes.step (B := T10.setTop (mkF m 57 #[.val (.ref a0r), .val (.ref ca), .val (.int 0), .val (.int 2), .val .null, .val (.ref fb3)] [])) st10 ?_
  have f11 := (f8.wr W10)
  have f12 := (Fw7.other W10 (Or.inr (slot_ne (Or.inr (own_w31 hw)) (Or.inr (own_w33 hw)) (by decide) (t := .byte) (t' := (.array .byte)) (by decide) (by decide))))
  have f13 := ((Vb3.other W7 (Ne.symm ne_a0r_fb3)).other W10 (Ne.symm ne_a0r_fb3))
  exact Goes.retV X10 hx e10 Bd.returns hlk (hb hby d3_57) (by decide) (by decide) (⟨rfl, N10, K_10, f11, fb3, fk3, Fw10, f12, f13⟩)
theorem ef_rmSI_2 (m : MethodId) (x0 : Addr) (x1 : Addr) : entryFrame m #[(.ref x0), (.ref x1)] 2 = mkF m 0 #[.val (.ref x0), .val (.ref x1)] [] := by first | (simp [entryFrame, mkF, argsToLocals, Value.category]; done) | rfl
def QSI_2 (Z : State) (a0r : Addr) (ca : Addr) (kc : ClassId) (cs : Int32) (ch0 : Int32) (ch1 : Int32) (h0 : Heap) (n0 : Nat) (v : Option Value) (h : Heap) (L : List Loc) : Prop := v = none ∧ Fr n0 L ∧ Keep h0 h [a0r] ∧ Exa Z h a0r "java/lang/String" ∧ ∃ (vb : Addr) (kv : ClassId), Fld Z h a0r "java/lang/String" "value" "[B" (.ref vb) ∧ Fld Z h a0r "java/lang/String" "coder" "B" (.int (0 : Int32)) ∧ Arv Z h vb kv .byte (2 : Int32) [.int (own_b ch0), .int (own_b ch1)] (.int (0 : Int32))
set_option maxRecDepth 65536 in
set_option maxHeartbeats 40000000 in
theorem rmSI_2 (l : Launch) (Z : State) (a0 : Array Value) (hw : ∀ d ∈ tables_1, d.before a0 Z = true) (ws : List Jvm.Cond) (a0r : Addr) (ca : Addr) (kc : ClassId) (cs : Int32) (ch0 : Int32) (ch1 : Int32) (h0 : Heap) (n0 : Nat) (O0 : Old Z n0 h0) (Er : Exa Z h0 a0r "java/lang/String") (gr : n0 ≤ a0r) (Fr_value : Fld Z h0 a0r "java/lang/String" "value" "[B" .null) (Fr_coder : Fld Z h0 a0r "java/lang/String" "coder" "B" (.int (0 : Int32))) (Vc : Arv Z h0 ca kc .char (2 : Int32) [.int ch0, .int ch1] (.int (0 : Int32))) (Sc : Sta Z h0 "java/lang/String" "COMPACT_STRINGS" "Z" (.int cs)) (hcs : ¬ cs = (0 : Int32)) (hk0 : own_ok ch0) (hk1 : own_ok ch1) :
    MetFree l (⟨"java/lang/String", "<init>", "([C)V"⟩ : MethodName) (head1 (Jvm.Cond.code (⟨"java/lang/String", "<init>", "([C)V"⟩ : MethodName) jdk_42_method_3_code 2 none :: ws) ({ frames := 3, cells := 1, slots := 2, locals := 52 } : Room)) (fun a U => a = #[(.ref a0r), (.ref ca)] ∧ Z.Warmed39 U.vm ∧ U.heap = h0) (fun _ _ _ _ _ => True) (fun _ U o U' => ∃ v L, o = .returned v ∧ QSI_2 Z a0r ca kc cs ch0 ch1 h0 n0 v U'.heap L ∧ FrameEnd U o U' L ({ frames := 3, cells := 1, slots := 2, locals := 52 } : Room).cells ({ frames := 3, cells := 1, slots := 2, locals := 52 } : Room).slots) := by
  refine MetFree.of_bodySF (plainFor_of_name pn_String) hisR ?_
  intro p e s m args below meth c s₁ Bd hml0 hP hK
  obtain ⟨rfl, hZ, hh⟩ := hP
  have hx := Bd.exec
  have hby := Bd.bytes
  have hlk : meth.locks = false := BodyLoose.notSynchronized Bd
  have hml : c.maxLocals = 2 := hml0
  have hown : s.vm.findClass "java/lang/String" = some m.cls := findClass_of_methodNamed Bd.named
  have hnm := (name_of_methodNamed Bd.named Bd.method).1
  have X0 : Stand p l e ({ frames := 3, cells := 1, slots := 2, locals := 52 } : Room) s m #[(.ref a0r), (.ref ca)] below meth c s₁ [] 0 0 := Stand.of_body Bd
  have e0 : s₁.heap = h0 := by rw [← hh, Bd.state]; rfl
  have N0 := Fr.nil n0
  show Goes p e below s (QSI_2 Z a0r ca kc cs ch0 ch1 h0 n0) ({ frames := 3, cells := 1, slots := 2, locals := 52 } : Room).cells ({ frames := 3, cells := 1, slots := 2, locals := 52 } : Room).slots (s₁.setTop (entryFrame m #[(.ref a0r), (.ref ca)] 2))
  refine Goes.enter (g' := (mkF m 0 #[.val (.ref a0r), .val (.ref ca)] [])) (ef_rmSI_2 m a0r ca) ?_
  refine Goes.step (fun _ k => pw_aloadN X0.here hx (hb hby d2_0) rfl rfl _ (pw_aloadN X0.here hx (hb hby d2_1) rfl rfl _ (pw_iconst X0.here hx (v := (0 : Int32)) (hb hby d2_2) rfl _ (pw_aloadN X0.here hx (hb hby d2_3) rfl rfl _ k)))) ?_
  obtain ⟨c1, Ar1, -, Sz1, Nn1, -, -⟩ := id Vc
  have len1 := X0.arraylength hx (by rw [e0]; exact Ar1.1) (State.isArrayOf_alike hZ.alike Ar1.2.1) (g := (mkF m 4 #[.val (.ref a0r), .val (.ref ca)] [(.ref ca), (.int 0), (.ref ca), (.ref a0r)])) rfl rfl (hb hby d2_4)
  rw [len_of Sz1 Nn1] at len1
  refine Goes.step (B := s₁.setTop (mkF m 5 #[.val (.ref a0r), .val (.ref ca)] [(.int 2), (.int 0), (.ref ca), (.ref a0r)])) len1 ?_
  refine Goes.step (fun _ k => pw_aconstNull X0.here hx (hb hby d2_5) _ k) ?_
  obtain ⟨_, _, ⟨T2, qL2, qk2, qn2⟩, -, X2, ⟨Lc2, hQ2, ql2, qy2, qz2⟩, st2⟩ := X0.specialBack hx (y := (⟨"java/lang/String", "<init>", "([CIILjava/lang/Void;)V"⟩ : MethodName)) rfl hown (mvT hZ (own_w11 hw)) (mvT hZ (own_w12 hw)) (mvT hZ (own_w14 hw)) (by decide) (backOf (W := 0) (rmSJ_2 l Z a0 hw [] a0r ca kc cs ch0 ch1 h0 n0 O0 Er gr Fr_value Fr_coder Vc Sc hcs hk0 hk1) hZ (own_w14 hw) (own_w7 hw) (by decide) (by decide)) (g := (mkF m 6 #[.val (.ref a0r), .val (.ref ca)] [.null, (.int 2), (.int 0), (.ref ca), (.ref a0r)])) rfl (by rw [hml]; rfl) (Steps.refl _) (a := a0r) (argsL := [(.ref ca), (.int 0), (.int 2), .null]) (rest := []) (lenOf pd_0 rfl) rfl (by show 2 * 0 + _ ≤ _; exact Nat.le_of_eq rfl) (hb hby d2_6) (fun _ _ => ⟨rfl, e0, (by decide : 0 + 1 ≤ _), (by decide : 0 + 2 ≤ _)⟩)
  dsimp only [Pt.U, Pt.locs, Pt.cells, Pt.slots] at X2 ql2 qy2 qz2 st2 hQ2
  rw [ql2, qy2, qz2] at X2
  obtain ⟨rfl, Nq2, Kp2, Ex2, sv2, sk2, Fsv2, Fsc2, Vsv2⟩ := hQ2
  have O_2 := O0.keep Kp2 (allS gr all0)
  have K_2 := (Keep.refl h0 [a0r]).trans Kp2 (allS (P := fun x => x ∈ _ ∨ _) (Or.inl (List.mem_of_getElem? (i := 0) rfl)) all0)
  have N2 := Fr.app N0 Nq2
  refine Goes.via (B := T2.setTop (mkF m 9 #[.val (.ref a0r), .val (.ref ca)] [])) st2 ?_
  exact Goes.retV X2 hx rfl Bd.returns hlk (hb hby d2_9) (by decide) (by decide) (⟨rfl, N2, K_2, Ex2, sv2, sk2, Fsv2, Fsc2, Vsv2⟩)
theorem ef_rmC5_3 (m : MethodId) (x0 : Addr) (x1 : Int32) (x2 : Addr) (x3 : Int32) (x4 : Int32) : entryFrame m #[(.ref x0), (.int x1), (.ref x2), (.int x3), (.int x4)] 7 = mkF m 0 #[.val (.ref x0), .val (.int x1), .val (.ref x2), .val (.int x3), .val (.int x4), .unset, .unset] [] := by first | (simp [entryFrame, mkF, argsToLocals, Value.category]; done) | rfl
def QC5_3 (Z : State) (ca : Addr) (kc : ClassId) (bb : Addr) (kb : ClassId) (ch0 : Int32) (ch1 : Int32) (ch2 : Int32) (h0 : Heap) (n0 : Nat) (v : Option Value) (h : Heap) (L : List Loc) : Prop := v = some (.int (3 : Int32)) ∧ Fr n0 L ∧ Keep h0 h [bb] ∧ Arv Z h bb kb .byte (3 : Int32) [.int (own_b ch0), .int (own_b ch1), .int (own_b ch2)] (.int (0 : Int32))
set_option maxRecDepth 65536 in
set_option maxHeartbeats 40000000 in
theorem rmC5_3 (l : Launch) (Z : State) (a0 : Array Value) (hw : ∀ d ∈ tables_1, d.before a0 Z = true) (ws : List Jvm.Cond) (ca : Addr) (kc : ClassId) (bb : Addr) (kb : ClassId) (ch0 : Int32) (ch1 : Int32) (ch2 : Int32) (h0 : Heap) (n0 : Nat) (O0 : Old Z n0 h0) (Vc : Arv Z h0 ca kc .char (3 : Int32) [.int ch0, .int ch1, .int ch2] (.int (0 : Int32))) (Vb : Arv Z h0 bb kb .byte (3 : Int32) [.int (0 : Int32), .int (0 : Int32), .int (0 : Int32)] (.int (0 : Int32))) (gb : n0 ≤ bb) (ncb : ca ≠ bb) (hk0 : own_ok ch0) (hk1 : own_ok ch1) (hk2 : own_ok ch2) :
    MetFree l (⟨"java/lang/StringUTF16", "compress", "([CI[BII)I"⟩ : MethodName) (head1 (Jvm.Cond.code (⟨"java/lang/StringUTF16", "compress", "([CI[BII)I"⟩ : MethodName) jdk_52_method_21_code 7 (some .int) :: ws) ({ frames := 0, cells := 0, slots := 0, locals := 0 } : Room)) (fun a U => a = #[(.ref ca), (.int 0), (.ref bb), (.int 0), (.int 3)] ∧ Z.Warmed39 U.vm ∧ U.heap = h0) (fun _ _ _ _ _ => True) (fun _ U o U' => ∃ v L, o = .returned v ∧ QC5_3 Z ca kc bb kb ch0 ch1 ch2 h0 n0 v U'.heap L ∧ FrameEnd U o U' L ({ frames := 0, cells := 0, slots := 0, locals := 0 } : Room).cells ({ frames := 0, cells := 0, slots := 0, locals := 0 } : Room).slots) := by
  refine MetFree.of_bodySF (plainFor_of_name pn_StringUTF16) hisR ?_
  intro p e s m args below meth c s₁ Bd hml0 hP hK
  obtain ⟨rfl, hZ, hh⟩ := hP
  have hx := Bd.exec
  have hby := Bd.bytes
  have hlk : meth.locks = false := BodyLoose.notSynchronized Bd
  have hml : c.maxLocals = 7 := hml0
  have hown : s.vm.findClass "java/lang/StringUTF16" = some m.cls := findClass_of_methodNamed Bd.named
  have hnm := (name_of_methodNamed Bd.named Bd.method).1
  have X0 : Stand p l e ({ frames := 0, cells := 0, slots := 0, locals := 0 } : Room) s m #[(.ref ca), (.int 0), (.ref bb), (.int 0), (.int 3)] below meth c s₁ [] 0 0 := Stand.of_body Bd
  have e0 : s₁.heap = h0 := by rw [← hh, Bd.state]; rfl
  have N0 := Fr.nil n0
  show Goes p e below s (QC5_3 Z ca kc bb kb ch0 ch1 ch2 h0 n0) ({ frames := 0, cells := 0, slots := 0, locals := 0 } : Room).cells ({ frames := 0, cells := 0, slots := 0, locals := 0 } : Room).slots (s₁.setTop (entryFrame m #[(.ref ca), (.int 0), (.ref bb), (.int 0), (.int 3)] 7))
  refine Goes.enter (g' := (mkF m 0 #[.val (.ref ca), .val (.int 0), .val (.ref bb), .val (.int 0), .val (.int 3), .unset, .unset] [])) (ef_rmC5_3 m ca ((0 : Int32)) bb ((0 : Int32)) ((3 : Int32))) ?_
  refine Goes.step (fun _ k => pw_iconst X0.here hx (v := (0 : Int32)) (hb hby d6_0) rfl _ (pw_istore X0.here hx (l' := #[.val (.ref ca), .val (.int 0), .val (.ref bb), .val (.int 0), .val (.int 3), .val (.int 0), .unset]) (hb hby d6_1) rfl _ (pw_iload X0.here hx (hb hby d6_3) rfl _ (pw_iload X0.here hx (hb hby d6_5) rfl _ (pw_icmpNo X0.here hx (hb hby d6_7) (tlt (by decide)).2.1 _ (pw_aloadN X0.here hx (hb hby d6_10) rfl rfl _ k)))))) ?_
  refine Goes.step (fun _ k => pw_iloadN X0.here hx (hb hby d6_11) rfl _ k) ?_
  obtain ⟨c1, Ar1, -, Sz1, Nn1, Hs1, -⟩ := id Vc
  have hin1 : ¬ ((0 : Int32) < 0 ∨ c1.slots.size ≤ ((0 : Int32)).toNatClampNeg) := inb_of Sz1 ⟨by decide, by decide⟩
  refine Goes.step (B := s₁.setTop (mkF m 13 #[.val (.ref ca), .val (.int 0), .val (.ref bb), .val (.int 0), .val (.int 3), .val (.int 0), .unset] [(.int ch0)])) (X0.caload hx (j := (0 : Int32)) (v := (.int ch0)) (by rw [e0]; exact Ar1.1) (State.isArrayOf_alike hZ.alike Ar1.2.1) Ar1.2.2 hin1 (Has.at Hs1 hin1 rfl) (g := (mkF m 12 #[.val (.ref ca), .val (.int 0), .val (.ref bb), .val (.int 0), .val (.int 3), .val (.int 0), .unset] [(.int 0), (.ref ca)])) rfl rfl (hb hby d6_12)) ?_
  refine Goes.step (fun _ k => pw_istore X0.here hx (l' := #[.val (.ref ca), .val (.int 0), .val (.ref bb), .val (.int 0), .val (.int 3), .val (.int 0), .val (.int ch0)]) (hb hby d6_13) rfl _ (pw_iload X0.here hx (hb hby d6_15) rfl _ (pw_sipush X0.here hx (v := (255 : Int32)) (hb hby d6_17) rfl _ (pw_icmpYes X0.here hx (pc' := 26) (hb hby d6_20) (flt (own_le hk0)).2.2.2 (by decide) (by decide) _ (pw_aloadN X0.here hx (hb hby d6_26) rfl rfl _ (pw_iloadN X0.here hx (hb hby d6_27) rfl _ k)))))) ?_
  refine Goes.step (fun _ k => pw_iload X0.here hx (hb hby d6_28) rfl _ k) ?_
  refine Goes.step (B := s₁.setTop (mkF m 31 #[.val (.ref ca), .val (.int 0), .val (.ref bb), .val (.int 0), .val (.int 3), .val (.int 0), .val (.int ch0)] [(.int (ch0.toInt8.toInt32)), (.int 0), (.ref bb)])) (fun _ k => XS.i2b X0.here hx rfl (hb hby d6_30) rfl k) ?_
  obtain ⟨c2, Ar2, q2, Sz2, Nn2, Hs2, Gs2⟩ := id Vb
  have hin2 : ¬ ((0 : Int32) < 0 ∨ c2.slots.size ≤ ((0 : Int32)).toNatClampNeg) := inb_of Sz2 ⟨by decide, by decide⟩
  obtain ⟨T2, h2, X2, e2, W2, st2⟩ := stB X0 hx hZ e0 Ar2 (j := (0 : Int32)) hin2 (g := (mkF m 31 #[.val (.ref ca), .val (.int 0), .val (.ref bb), .val (.int 0), .val (.int 3), .val (.int 0), .val (.int ch0)] [(.int (ch0.toInt8.toInt32)), (.int 0), (.ref bb)])) rfl rfl (hb hby d6_31)
  have V2 : Arv Z h2 bb kb .byte (3 : Int32) [(.int (nar .byte (ch0.toInt8.toInt32))), (.int 0), (.int 0)] (.int 0) := Arv.set Ar2 q2 Sz2 Nn2 Hs2 Gs2 (fits_nar_byte _) W2 0 rfl (Nat.le_of_ble_eq_true rfl)
  have N2 := Fr.snoc X2 N0 gb
  have O_2 := O0.wr W2 gb
  have K_2 := (Keep.refl h0 [bb]).wr W2 (Or.inl (List.mem_of_getElem? (i := 0) rfl))
  refine Goes.step (B := T2.setTop (mkF m 32 #[.val (.ref ca), .val (.int 0), .val (.ref bb), .val (.int 0), .val (.int 3), .val (.int 0), .val (.int ch0)] [])) st2 ?_
  refine Goes.step (fun _ k => pw_iinc X2.here hx (l' := #[.val (.ref ca), .val (.int 1), .val (.ref bb), .val (.int 0), .val (.int 3), .val (.int 0), .val (.int ch0)]) (hb hby d6_32) rfl rfl _ (pw_iinc X2.here hx (l' := #[.val (.ref ca), .val (.int 1), .val (.ref bb), .val (.int 1), .val (.int 3), .val (.int 0), .val (.int ch0)]) (hb hby d6_35) rfl rfl _ (pw_iinc X2.here hx (l' := #[.val (.ref ca), .val (.int 1), .val (.ref bb), .val (.int 1), .val (.int 3), .val (.int 1), .val (.int ch0)]) (hb hby d6_38) rfl rfl _ (pw_goto X2.here hx (pc' := 3) (hb hby d6_41) (by decide) (by decide) _ (pw_iload X2.here hx (hb hby d6_3) rfl _ (pw_iload X2.here hx (hb hby d6_5) rfl _ k)))))) ?_
  refine Goes.step (fun _ k => pw_icmpNo X2.here hx (hb hby d6_7) (tlt (by decide)).2.1 _ (pw_aloadN X2.here hx (hb hby d6_10) rfl rfl _ (pw_iloadN X2.here hx (hb hby d6_11) rfl _ k))) ?_
  have f3 := (Vc.other W2 ncb)
  obtain ⟨c4, Ar4, -, Sz4, Nn4, Hs4, -⟩ := id f3
  have hin4 : ¬ ((1 : Int32) < 0 ∨ c4.slots.size ≤ ((1 : Int32)).toNatClampNeg) := inb_of Sz4 ⟨by decide, by decide⟩
  refine Goes.step (B := T2.setTop (mkF m 13 #[.val (.ref ca), .val (.int 1), .val (.ref bb), .val (.int 1), .val (.int 3), .val (.int 1), .val (.int ch0)] [(.int ch1)])) (X2.caload hx (j := (1 : Int32)) (v := (.int ch1)) (by rw [e2]; exact Ar4.1) (State.isArrayOf_alike hZ.alike Ar4.2.1) Ar4.2.2 hin4 (Has.at Hs4 hin4 rfl) (g := (mkF m 12 #[.val (.ref ca), .val (.int 1), .val (.ref bb), .val (.int 1), .val (.int 3), .val (.int 1), .val (.int ch0)] [(.int 1), (.ref ca)])) rfl rfl (hb hby d6_12)) ?_
  refine Goes.step (fun _ k => pw_istore X2.here hx (l' := #[.val (.ref ca), .val (.int 1), .val (.ref bb), .val (.int 1), .val (.int 3), .val (.int 1), .val (.int ch1)]) (hb hby d6_13) rfl _ (pw_iload X2.here hx (hb hby d6_15) rfl _ (pw_sipush X2.here hx (v := (255 : Int32)) (hb hby d6_17) rfl _ (pw_icmpYes X2.here hx (pc' := 26) (hb hby d6_20) (flt (own_le hk1)).2.2.2 (by decide) (by decide) _ (pw_aloadN X2.here hx (hb hby d6_26) rfl rfl _ (pw_iloadN X2.here hx (hb hby d6_27) rfl _ k)))))) ?_
  refine Goes.step (fun _ k => pw_iload X2.here hx (hb hby d6_28) rfl _ k) ?_
  refine Goes.step (B := T2.setTop (mkF m 31 #[.val (.ref ca), .val (.int 1), .val (.ref bb), .val (.int 1), .val (.int 3), .val (.int 1), .val (.int ch1)] [(.int (ch1.toInt8.toInt32)), (.int 1), (.ref bb)])) (fun _ k => XS.i2b X2.here hx rfl (hb hby d6_30) rfl k) ?_
  obtain ⟨c5, Ar5, q5, Sz5, Nn5, Hs5, Gs5⟩ := id V2
  have hin5 : ¬ ((1 : Int32) < 0 ∨ c5.slots.size ≤ ((1 : Int32)).toNatClampNeg) := inb_of Sz5 ⟨by decide, by decide⟩
  obtain ⟨T5, h5, X5, e5, W5, st5⟩ := stB X2 hx hZ e2 Ar5 (j := (1 : Int32)) hin5 (g := (mkF m 31 #[.val (.ref ca), .val (.int 1), .val (.ref bb), .val (.int 1), .val (.int 3), .val (.int 1), .val (.int ch1)] [(.int (ch1.toInt8.toInt32)), (.int 1), (.ref bb)])) rfl rfl (hb hby d6_31)
  have V5 : Arv Z h5 bb kb .byte (3 : Int32) [(.int (nar .byte (ch0.toInt8.toInt32))), (.int (nar .byte (ch1.toInt8.toInt32))), (.int 0)] (.int 0) := Arv.set Ar5 q5 Sz5 Nn5 Hs5 Gs5 (fits_nar_byte _) W5 1 rfl (Nat.le_of_ble_eq_true rfl)
  have N5 := Fr.snoc X5 N2 gb
  have O_5 := O_2.wr W5 gb
  have K_5 := K_2.wr W5 (Or.inl (List.mem_of_getElem? (i := 0) rfl))
  refine Goes.step (B := T5.setTop (mkF m 32 #[.val (.ref ca), .val (.int 1), .val (.ref bb), .val (.int 1), .val (.int 3), .val (.int 1), .val (.int ch1)] [])) st5 ?_
  refine Goes.step (fun _ k => pw_iinc X5.here hx (l' := #[.val (.ref ca), .val (.int 2), .val (.ref bb), .val (.int 1), .val (.int 3), .val (.int 1), .val (.int ch1)]) (hb hby d6_32) rfl rfl _ (pw_iinc X5.here hx (l' := #[.val (.ref ca), .val (.int 2), .val (.ref bb), .val (.int 2), .val (.int 3), .val (.int 1), .val (.int ch1)]) (hb hby d6_35) rfl rfl _ (pw_iinc X5.here hx (l' := #[.val (.ref ca), .val (.int 2), .val (.ref bb), .val (.int 2), .val (.int 3), .val (.int 2), .val (.int ch1)]) (hb hby d6_38) rfl rfl _ (pw_goto X5.here hx (pc' := 3) (hb hby d6_41) (by decide) (by decide) _ (pw_iload X5.here hx (hb hby d6_3) rfl _ (pw_iload X5.here hx (hb hby d6_5) rfl _ k)))))) ?_
  refine Goes.step (fun _ k => pw_icmpNo X5.here hx (hb hby d6_7) (tlt (by decide)).2.1 _ (pw_aloadN X5.here hx (hb hby d6_10) rfl rfl _ (pw_iloadN X5.here hx (hb hby d6_11) rfl _ k))) ?_
  have f6 := (f3.other W5 ncb)
  obtain ⟨c7, Ar7, -, Sz7, Nn7, Hs7, -⟩ := id f6
  have hin7 : ¬ ((2 : Int32) < 0 ∨ c7.slots.size ≤ ((2 : Int32)).toNatClampNeg) := inb_of Sz7 ⟨by decide, by decide⟩
  refine Goes.step (B := T5.setTop (mkF m 13 #[.val (.ref ca), .val (.int 2), .val (.ref bb), .val (.int 2), .val (.int 3), .val (.int 2), .val (.int ch1)] [(.int ch2)])) (X5.caload hx (j := (2 : Int32)) (v := (.int ch2)) (by rw [e5]; exact Ar7.1) (State.isArrayOf_alike hZ.alike Ar7.2.1) Ar7.2.2 hin7 (Has.at Hs7 hin7 rfl) (g := (mkF m 12 #[.val (.ref ca), .val (.int 2), .val (.ref bb), .val (.int 2), .val (.int 3), .val (.int 2), .val (.int ch1)] [(.int 2), (.ref ca)])) rfl rfl (hb hby d6_12)) ?_
  refine Goes.step (fun _ k => pw_istore X5.here hx (l' := #[.val (.ref ca), .val (.int 2), .val (.ref bb), .val (.int 2), .val (.int 3), .val (.int 2), .val (.int ch2)]) (hb hby d6_13) rfl _ (pw_iload X5.here hx (hb hby d6_15) rfl _ (pw_sipush X5.here hx (v := (255 : Int32)) (hb hby d6_17) rfl _ (pw_icmpYes X5.here hx (pc' := 26) (hb hby d6_20) (flt (own_le hk2)).2.2.2 (by decide) (by decide) _ (pw_aloadN X5.here hx (hb hby d6_26) rfl rfl _ (pw_iloadN X5.here hx (hb hby d6_27) rfl _ k)))))) ?_
  refine Goes.step (fun _ k => pw_iload X5.here hx (hb hby d6_28) rfl _ k) ?_
  refine Goes.step (B := T5.setTop (mkF m 31 #[.val (.ref ca), .val (.int 2), .val (.ref bb), .val (.int 2), .val (.int 3), .val (.int 2), .val (.int ch2)] [(.int (ch2.toInt8.toInt32)), (.int 2), (.ref bb)])) (fun _ k => XS.i2b X5.here hx rfl (hb hby d6_30) rfl k) ?_
  obtain ⟨c8, Ar8, q8, Sz8, Nn8, Hs8, Gs8⟩ := id V5
  have hin8 : ¬ ((2 : Int32) < 0 ∨ c8.slots.size ≤ ((2 : Int32)).toNatClampNeg) := inb_of Sz8 ⟨by decide, by decide⟩
  obtain ⟨T8, h8, X8, e8, W8, st8⟩ := stB X5 hx hZ e5 Ar8 (j := (2 : Int32)) hin8 (g := (mkF m 31 #[.val (.ref ca), .val (.int 2), .val (.ref bb), .val (.int 2), .val (.int 3), .val (.int 2), .val (.int ch2)] [(.int (ch2.toInt8.toInt32)), (.int 2), (.ref bb)])) rfl rfl (hb hby d6_31)
  have V8 : Arv Z h8 bb kb .byte (3 : Int32) [(.int (nar .byte (ch0.toInt8.toInt32))), (.int (nar .byte (ch1.toInt8.toInt32))), (.int (nar .byte (ch2.toInt8.toInt32)))] (.int 0) := Arv.set Ar8 q8 Sz8 Nn8 Hs8 Gs8 (fits_nar_byte _) W8 2 rfl (Nat.le_of_ble_eq_true rfl)
  have N8 := Fr.snoc X8 N5 gb
  have O_8 := O_5.wr W8 gb
  have K_8 := K_5.wr W8 (Or.inl (List.mem_of_getElem? (i := 0) rfl))
  refine Goes.step (B := T8.setTop (mkF m 32 #[.val (.ref ca), .val (.int 2), .val (.ref bb), .val (.int 2), .val (.int 3), .val (.int 2), .val (.int ch2)] [])) st8 ?_
  refine Goes.step (fun _ k => pw_iinc X8.here hx (l' := #[.val (.ref ca), .val (.int 3), .val (.ref bb), .val (.int 2), .val (.int 3), .val (.int 2), .val (.int ch2)]) (hb hby d6_32) rfl rfl _ (pw_iinc X8.here hx (l' := #[.val (.ref ca), .val (.int 3), .val (.ref bb), .val (.int 3), .val (.int 3), .val (.int 2), .val (.int ch2)]) (hb hby d6_35) rfl rfl _ (pw_iinc X8.here hx (l' := #[.val (.ref ca), .val (.int 3), .val (.ref bb), .val (.int 3), .val (.int 3), .val (.int 3), .val (.int ch2)]) (hb hby d6_38) rfl rfl _ (pw_goto X8.here hx (pc' := 3) (hb hby d6_41) (by decide) (by decide) _ (pw_iload X8.here hx (hb hby d6_3) rfl _ (pw_iload X8.here hx (hb hby d6_5) rfl _ k)))))) ?_
  refine Goes.step (fun _ k => pw_icmpYes X8.here hx (pc' := 44) (hb hby d6_7) (flt (by decide)).2.1 (by decide) (by decide) _ (pw_iload X8.here hx (hb hby d6_44) rfl _ k)) ?_
  exact Goes.retI X8 hx e8 Bd.returns hlk (hb hby d6_46) (by decide) (by decide) (⟨rfl, N8, K_8, V8⟩)
theorem ef_rmC3_3 (m : MethodId) (x0 : Addr) (x1 : Int32) (x2 : Int32) : entryFrame m #[(.ref x0), (.int x1), (.int x2)] 6 = mkF m 0 #[.val (.ref x0), .val (.int x1), .val (.int x2), .unset, .unset, .unset] [] := by first | (simp [entryFrame, mkF, argsToLocals, Value.category]; done) | rfl
def QC3_3 (Z : State) (ca : Addr) (kc : ClassId) (ch0 : Int32) (ch1 : Int32) (ch2 : Int32) (h0 : Heap) (n0 : Nat) (v : Option Value) (h : Heap) (L : List Loc) : Prop := ∃ (b : Addr) (k : ClassId), v = some (.ref b) ∧ Fr n0 L ∧ Keep h0 h [] ∧ n0 ≤ b ∧ h0.size ≤ b ∧ Arv Z h b k .byte (3 : Int32) [(.int (own_b ch0)), (.int (own_b ch1)), (.int (own_b ch2))] (.int 0)
set_option maxRecDepth 65536 in
set_option maxHeartbeats 40000000 in
theorem rmC3_3 (l : Launch) (Z : State) (a0 : Array Value) (hw : ∀ d ∈ tables_1, d.before a0 Z = true) (ws : List Jvm.Cond) (ca : Addr) (kc : ClassId) (ch0 : Int32) (ch1 : Int32) (ch2 : Int32) (h0 : Heap) (n0 : Nat) (O0 : Old Z n0 h0) (Vc : Arv Z h0 ca kc .char (3 : Int32) [.int ch0, .int ch1, .int ch2] (.int (0 : Int32))) (hk0 : own_ok ch0) (hk1 : own_ok ch1) (hk2 : own_ok ch2) :
    MetFree l (⟨"java/lang/StringUTF16", "compress", "([CII)[B"⟩ : MethodName) (head1 (Jvm.Cond.code (⟨"java/lang/StringUTF16", "compress", "([CII)[B"⟩ : MethodName) jdk_52_method_16_code 6 (some (.array .byte)) :: ws) ({ frames := 1, cells := 1, slots := 3, locals := 18 } : Room)) (fun a U => a = #[(.ref ca), (.int 0), (.int 3)] ∧ Z.Warmed39 U.vm ∧ U.heap = h0) (fun _ _ _ _ _ => True) (fun _ U o U' => ∃ v L, o = .returned v ∧ QC3_3 Z ca kc ch0 ch1 ch2 h0 n0 v U'.heap L ∧ FrameEnd U o U' L ({ frames := 1, cells := 1, slots := 3, locals := 18 } : Room).cells ({ frames := 1, cells := 1, slots := 3, locals := 18 } : Room).slots) := by
  refine MetFree.of_bodySF (plainFor_of_name pn_StringUTF16) hisR ?_
  intro p e s m args below meth c s₁ Bd hml0 hP hK
  obtain ⟨rfl, hZ, hh⟩ := hP
  have hx := Bd.exec
  have hby := Bd.bytes
  have hlk : meth.locks = false := BodyLoose.notSynchronized Bd
  have hml : c.maxLocals = 6 := hml0
  have hown : s.vm.findClass "java/lang/StringUTF16" = some m.cls := findClass_of_methodNamed Bd.named
  have hnm := (name_of_methodNamed Bd.named Bd.method).1
  have X0 : Stand p l e ({ frames := 1, cells := 1, slots := 3, locals := 18 } : Room) s m #[(.ref ca), (.int 0), (.int 3)] below meth c s₁ [] 0 0 := Stand.of_body Bd
  have e0 : s₁.heap = h0 := by rw [← hh, Bd.state]; rfl
  have N0 := Fr.nil n0
  show Goes p e below s (QC3_3 Z ca kc ch0 ch1 ch2 h0 n0) ({ frames := 1, cells := 1, slots := 3, locals := 18 } : Room).cells ({ frames := 1, cells := 1, slots := 3, locals := 18 } : Room).slots (s₁.setTop (entryFrame m #[(.ref ca), (.int 0), (.int 3)] 6))
  refine Goes.enter (g' := (mkF m 0 #[.val (.ref ca), .val (.int 0), .val (.int 3), .unset, .unset, .unset] [])) (ef_rmC3_3 m ca ((0 : Int32)) ((3 : Int32))) ?_
  refine Goes.step (fun _ k => pw_iloadN X0.here hx (hb hby d5_0) rfl _ k) ?_
  obtain ⟨T1, h1, k1, X1, e1, E1, A1, st1⟩ := newP (aty := .byte) X0 hx hZ (own_w23 hw) e0 (g := (mkF m 1 #[.val (.ref ca), .val (.int 0), .val (.int 3), .unset, .unset, .unset] [(.int 3)])) rfl (hb hby d5_1) rfl (by decide) (cap := 3) (by decide) (by decide) (by decide) (by decide)
  obtain ⟨b1, g1⟩ : ∃ z, z = h0.size := ⟨_, rfl⟩
  rw [← g1] at A1 st1
  have ne_ca_b1 : ca ≠ b1 := Nat.ne_of_lt (Nat.lt_of_lt_of_le Vc.lt (Nat.le_of_eq g1.symm))
  have g_b1 : n0 ≤ b1 := Nat.le_trans (own_z O0) (Nat.le_of_eq g1.symm)
  have O_1 := O0.ext E1
  have sz_b1 : h0.size ≤ b1 := Nat.le_trans (Keep.refl h0 []).1 (Nat.le_of_eq g1.symm)
  have K_1 := (Keep.refl h0 []).ext E1
  have V_b1 : Arv Z h1 b1 k1 .byte (3 : Int32) [(.int 0), (.int 0), (.int 0)] (.int 0) := (Arv.new A1 (by decide)).pad (pad_rep [] (.int 0) 3)
  refine Goes.step (B := T1.setTop (mkF m 3 #[.val (.ref ca), .val (.int 0), .val (.int 3), .unset, .unset, .unset] [(.ref b1)])) st1 ?_
  refine Goes.step (fun _ k => pw_astoreN X1.here hx (l' := #[.val (.ref ca), .val (.int 0), .val (.int 3), .val (.ref b1), .unset, .unset]) (hb hby d5_3) rfl rfl _ (pw_aloadN X1.here hx (hb hby d5_4) rfl rfl _ (pw_iloadN X1.here hx (hb hby d5_5) rfl _ (pw_aloadN X1.here hx (hb hby d5_6) rfl rfl _ (pw_iconst X1.here hx (v := (0 : Int32)) (hb hby d5_7) rfl _ (pw_iloadN X1.here hx (hb hby d5_8) rfl _ k)))))) ?_
  have f3 := (Vc.ext E1)
  obtain ⟨_, _, ⟨T2, qL2, qk2, qn2⟩, -, X2, ⟨Lc2, hQ2, ql2, qy2, qz2⟩, st2⟩ := Jvm.LawKit.callS X1 hx (y := (⟨"java/lang/StringUTF16", "compress", "([CI[BII)I"⟩ : MethodName)) hown (mvT hZ (own_w24 hw)) (mvT hZ (own_w25 hw)) (mvT hZ (own_w21 hw)) (mvT hZ (own_w26 hw)) (by decide) (backOf (W := 0) (rmC5_3 l Z a0 hw [] ca kc b1 k1 ch0 ch1 ch2 h1 n0 O_1 f3 V_b1 g_b1 ne_ca_b1 hk0 hk1 hk2) hZ (own_w26 hw) (own_w21 hw) (by decide) (by decide)) (g := (mkF m 9 #[.val (.ref ca), .val (.int 0), .val (.int 3), .val (.ref b1), .unset, .unset] [(.int 3), (.int 0), (.ref b1), (.int 0), (.ref ca)])) rfl (by rw [hml]; rfl) (argsL := [(.ref ca), (.int 0), (.ref b1), (.int 0), (.int 3)]) (rest := []) (lenOf pd_1 rfl) rfl (by show 2 * 0 + _ ≤ _; exact Nat.le_of_eq rfl) (hb hby d5_9) (fun _ _ => ⟨rfl, e1, (by decide : 1 + 0 ≤ _), (by decide : 3 + 0 ≤ _)⟩)
  dsimp only [Pt.U, Pt.locs, Pt.cells, Pt.slots] at X2 ql2 qy2 qz2 st2 hQ2
  rw [ql2, qy2, qz2] at X2
  obtain ⟨rfl, Nq2, Kp2, Vq2⟩ := hQ2
  have O_2 := O_1.keep Kp2 (allS g_b1 all0)
  have K_2 := K_1.trans Kp2 (allS (P := fun x => x ∈ _ ∨ _) (Or.inr sz_b1) all0)
  have N2 := Fr.app N0 Nq2
  refine Goes.step (B := T2.setTop (mkF m 12 #[.val (.ref ca), .val (.int 0), .val (.int 3), .val (.ref b1), .unset, .unset] [(.int 3)])) st2 ?_
  refine Goes.step (fun _ k => pw_istore X2.here hx (l' := #[.val (.ref ca), .val (.int 0), .val (.int 3), .val (.ref b1), .val (.int 3), .unset]) (hb hby d5_12) rfl _ (pw_iload X2.here hx (hb hby d5_14) rfl _ (pw_iloadN X2.here hx (hb hby d5_16) rfl _ (pw_icmpYes X2.here hx (pc' := 57) (hb hby d5_17) (teq (by decide)).1 (by decide) (by decide) _ (pw_aloadN X2.here hx (hb hby d5_57) rfl rfl _ k))))) ?_
  exact Goes.retA X2 hx rfl Bd.returns rfl rfl hlk (hb hby d5_58) (by decide) (by decide) (⟨b1, k1, rfl, N2, K_2, g_b1, sz_b1, Vq2⟩)
theorem ef_rmCF_3 (m : MethodId) (x0 : Addr) (x1 : Int32) : entryFrame m #[(.ref x0), (.int x1)] 2 = mkF m 0 #[.val (.ref x0), .val (.int x1)] [] := by first | (simp [entryFrame, mkF, argsToLocals, Value.category]; done) | rfl
def QCF_3 (Z : State) (bb : Addr) (kb : ClassId) (ls : List Value) (h0 : Heap) (n0 : Nat) (v : Option Value) (h : Heap) (L : List Loc) : Prop := v = some (.int 0) ∧ Fr n0 L ∧ h = h0
set_option maxRecDepth 65536 in
set_option maxHeartbeats 40000000 in
theorem rmCF_3 (l : Launch) (Z : State) (a0 : Array Value) (hw : ∀ d ∈ tables_1, d.before a0 Z = true) (ws : List Jvm.Cond) (bb : Addr) (kb : ClassId) (ls : List Value) (h0 : Heap) (n0 : Nat) (O0 : Old Z n0 h0) (Vb : Arv Z h0 bb kb .byte (3 : Int32) ls (.int (0 : Int32))) :
    MetFree l (⟨"java/lang/StringUTF16", "coderFromArrayLen", "([BI)B"⟩ : MethodName) (head1 (Jvm.Cond.code (⟨"java/lang/StringUTF16", "coderFromArrayLen", "([BI)B"⟩ : MethodName) jdk_52_method_15_code 2 (some .byte) :: ws) ({ frames := 0, cells := 0, slots := 0, locals := 0 } : Room)) (fun a U => a = #[(.ref bb), (.int 3)] ∧ Z.Warmed39 U.vm ∧ U.heap = h0) (fun _ _ _ _ _ => True) (fun _ U o U' => ∃ v L, o = .returned v ∧ QCF_3 Z bb kb ls h0 n0 v U'.heap L ∧ FrameEnd U o U' L ({ frames := 0, cells := 0, slots := 0, locals := 0 } : Room).cells ({ frames := 0, cells := 0, slots := 0, locals := 0 } : Room).slots) := by
  refine MetFree.of_bodySF (plainFor_of_name pn_StringUTF16) hisR ?_
  intro p e s m args below meth c s₁ Bd hml0 hP hK
  obtain ⟨rfl, hZ, hh⟩ := hP
  have hx := Bd.exec
  have hby := Bd.bytes
  have hlk : meth.locks = false := BodyLoose.notSynchronized Bd
  have hml : c.maxLocals = 2 := hml0
  have hown : s.vm.findClass "java/lang/StringUTF16" = some m.cls := findClass_of_methodNamed Bd.named
  have hnm := (name_of_methodNamed Bd.named Bd.method).1
  have X0 : Stand p l e ({ frames := 0, cells := 0, slots := 0, locals := 0 } : Room) s m #[(.ref bb), (.int 3)] below meth c s₁ [] 0 0 := Stand.of_body Bd
  have e0 : s₁.heap = h0 := by rw [← hh, Bd.state]; rfl
  have N0 := Fr.nil n0
  show Goes p e below s (QCF_3 Z bb kb ls h0 n0) ({ frames := 0, cells := 0, slots := 0, locals := 0 } : Room).cells ({ frames := 0, cells := 0, slots := 0, locals := 0 } : Room).slots (s₁.setTop (entryFrame m #[(.ref bb), (.int 3)] 2))
  refine Goes.enter (g' := (mkF m 0 #[.val (.ref bb), .val (.int 3)] [])) (ef_rmCF_3 m bb ((3 : Int32))) ?_
  refine Goes.step (fun _ k => pw_iloadN X0.here hx (hb hby d7_0) rfl _ (pw_aloadN X0.here hx (hb hby d7_1) rfl rfl _ k)) ?_
  obtain ⟨c1, Ar1, -, Sz1, Nn1, -, -⟩ := id Vb
  have len1 := X0.arraylength hx (by rw [e0]; exact Ar1.1) (State.isArrayOf_alike hZ.alike Ar1.2.1) (g := (mkF m 2 #[.val (.ref bb), .val (.int 3)] [(.ref bb), (.int 3)])) rfl rfl (hb hby d7_2)
  rw [len_of Sz1 Nn1] at len1
  refine Goes.step (B := s₁.setTop (mkF m 3 #[.val (.ref bb), .val (.int 3)] [(.int 3), (.int 3)])) len1 ?_
  refine Goes.step (B := s₁.setTop (mkF m 4 #[.val (.ref bb), .val (.int 3)] [(.int 0)])) (fun _ k => XS.isub X0.here hx rfl (hb hby d7_3) rfl k) ?_
  refine Goes.step (fun _ k => pw_bipush X0.here hx (v := (31 : Int32)) (hb hby d7_4) rfl _ k) ?_
  refine Goes.step (B := s₁.setTop (mkF m 7 #[.val (.ref bb), .val (.int 3)] [(.int 0)])) (fun _ k => XS.iushr X0.here hx rfl (hb hby d7_6) rfl k) ?_
  refine Goes.step (B := s₁.setTop (mkF m 8 #[.val (.ref bb), .val (.int 3)] [(.int 0)])) (fun _ k => XS.i2b X0.here hx rfl (hb hby d7_7) rfl k) ?_
  exact Goes.retN X0 hx e0 (t := .byte) Bd.returns (by simp) hlk (hb hby d7_8) (by decide) (by decide) (⟨rfl, N0, rfl⟩)
theorem ef_rmSJ_3 (m : MethodId) (x0 : Addr) (x1 : Addr) (x2 : Int32) (x3 : Int32) : entryFrame m #[(.ref x0), (.ref x1), (.int x2), (.int x3), .null] 6 = mkF m 0 #[.val (.ref x0), .val (.ref x1), .val (.int x2), .val (.int x3), .val .null, .unset] [] := by first | (simp [entryFrame, mkF, argsToLocals, Value.category]; done) | rfl
def QSJ_3 (Z : State) (a0r : Addr) (ca : Addr) (kc : ClassId) (cs : Int32) (ch0 : Int32) (ch1 : Int32) (ch2 : Int32) (h0 : Heap) (n0 : Nat) (v : Option Value) (h : Heap) (L : List Loc) : Prop := v = none ∧ Fr n0 L ∧ Keep h0 h [a0r] ∧ Exa Z h a0r "java/lang/String" ∧ ∃ (vb : Addr) (kv : ClassId), Fld Z h a0r "java/lang/String" "value" "[B" (.ref vb) ∧ Fld Z h a0r "java/lang/String" "coder" "B" (.int (0 : Int32)) ∧ Arv Z h vb kv .byte (3 : Int32) [.int (own_b ch0), .int (own_b ch1), .int (own_b ch2)] (.int (0 : Int32))
set_option maxRecDepth 65536 in
set_option maxHeartbeats 40000000 in
theorem rmSJ_3 (l : Launch) (Z : State) (a0 : Array Value) (hw : ∀ d ∈ tables_1, d.before a0 Z = true) (ws : List Jvm.Cond) (a0r : Addr) (ca : Addr) (kc : ClassId) (cs : Int32) (ch0 : Int32) (ch1 : Int32) (ch2 : Int32) (h0 : Heap) (n0 : Nat) (O0 : Old Z n0 h0) (Er : Exa Z h0 a0r "java/lang/String") (gr : n0 ≤ a0r) (Fr_value : Fld Z h0 a0r "java/lang/String" "value" "[B" .null) (Fr_coder : Fld Z h0 a0r "java/lang/String" "coder" "B" (.int (0 : Int32))) (Vc : Arv Z h0 ca kc .char (3 : Int32) [.int ch0, .int ch1, .int ch2] (.int (0 : Int32))) (Sc : Sta Z h0 "java/lang/String" "COMPACT_STRINGS" "Z" (.int cs)) (hcs : ¬ cs = (0 : Int32)) (hk0 : own_ok ch0) (hk1 : own_ok ch1) (hk2 : own_ok ch2) :
    MetFree l (⟨"java/lang/String", "<init>", "([CIILjava/lang/Void;)V"⟩ : MethodName) (head1 (Jvm.Cond.code (⟨"java/lang/String", "<init>", "([CIILjava/lang/Void;)V"⟩ : MethodName) jdk_42_method_149_code 6 none :: ws) ({ frames := 2, cells := 1, slots := 3, locals := 35 } : Room)) (fun a U => a = #[(.ref a0r), (.ref ca), (.int 0), (.int 3), .null] ∧ Z.Warmed39 U.vm ∧ U.heap = h0) (fun _ _ _ _ _ => True) (fun _ U o U' => ∃ v L, o = .returned v ∧ QSJ_3 Z a0r ca kc cs ch0 ch1 ch2 h0 n0 v U'.heap L ∧ FrameEnd U o U' L ({ frames := 2, cells := 1, slots := 3, locals := 35 } : Room).cells ({ frames := 2, cells := 1, slots := 3, locals := 35 } : Room).slots) := by
  refine MetFree.of_bodySF (plainFor_of_name pn_String) hisR ?_
  intro p e s m args below meth c s₁ Bd hml0 hP hK
  obtain ⟨rfl, hZ, hh⟩ := hP
  have hx := Bd.exec
  have hby := Bd.bytes
  have hlk : meth.locks = false := BodyLoose.notSynchronized Bd
  have hml : c.maxLocals = 6 := hml0
  have hown : s.vm.findClass "java/lang/String" = some m.cls := findClass_of_methodNamed Bd.named
  have hnm := (name_of_methodNamed Bd.named Bd.method).1
  have X0 : Stand p l e ({ frames := 2, cells := 1, slots := 3, locals := 35 } : Room) s m #[(.ref a0r), (.ref ca), (.int 0), (.int 3), .null] below meth c s₁ [] 0 0 := Stand.of_body Bd
  have e0 : s₁.heap = h0 := by rw [← hh, Bd.state]; rfl
  have N0 := Fr.nil n0
  show Goes p e below s (QSJ_3 Z a0r ca kc cs ch0 ch1 ch2 h0 n0) ({ frames := 2, cells := 1, slots := 3, locals := 35 } : Room).cells ({ frames := 2, cells := 1, slots := 3, locals := 35 } : Room).slots (s₁.setTop (entryFrame m #[(.ref a0r), (.ref ca), (.int 0), (.int 3), .null] 6))
  refine Goes.enter (g' := (mkF m 0 #[.val (.ref a0r), .val (.ref ca), .val (.int 0), .val (.int 3), .val .null, .unset] [])) (ef_rmSJ_3 m a0r ca ((0 : Int32)) ((3 : Int32))) ?_
  refine Goes.step (fun _ k => pw_aloadN X0.here hx (hb hby d3_0) rfl rfl _ k) ?_
  obtain ⟨T1, X1, e1, st1⟩ := initO X0 hx hZ hown (own_w15 hw) (own_w16 hw) (own_w17 hw) e0 (g := (mkF m 1 #[.val (.ref a0r), .val (.ref ca), .val (.int 0), .val (.int 3), .val .null, .unset] [(.ref a0r)])) rfl (by rw [hml]; rfl) rfl (hb hby d3_1) (by decide) (W := 0) (by show 2 * 0 + _ ≤ _; exact Nat.le_of_eq rfl) (by decide)
  refine Goes.step (B := T1.setTop (mkF m 4 #[.val (.ref a0r), .val (.ref ca), .val (.int 0), .val (.int 3), .val .null, .unset] [])) st1 ?_
  refine Goes.step (fun _ k => pw_iloadN X1.here hx (hb hby d3_4) rfl _ (pw_ifYes X1.here hx (pc' := 27) (hb hby d3_5) ((if0 _ _).trans (feq (by decide)).2) (by decide) (by decide) _ k)) ?_
  obtain ⟨T2, X2, e2, st2⟩ := getS2 X1 hx hZ hown (host := "") (Or.inl (own_w18 hw)) Via.refl e1 Sc (g := (mkF m 27 #[.val (.ref a0r), .val (.ref ca), .val (.int 0), .val (.int 3), .val .null, .unset] [])) rfl (hb hby d3_27)
  refine Goes.step (B := T2.setTop (mkF m 30 #[.val (.ref a0r), .val (.ref ca), .val (.int 0), .val (.int 3), .val .null, .unset] [(.int cs)])) st2 ?_
  refine Goes.step (fun _ k => pw_ifNo X2.here hx (hb hby d3_30) ((if0 _ _).trans (feq hcs).1) _ (pw_aloadN X2.here hx (hb hby d3_33) rfl rfl _ (pw_iloadN X2.here hx (hb hby d3_34) rfl _ (pw_iloadN X2.here hx (hb hby d3_35) rfl _ k)))) ?_
  have lt_a0r_3 := Er.lt
  have lt_ca_3 := Vc.lt
  obtain ⟨_, _, ⟨T3, qL3, qk3, qn3⟩, -, X3, ⟨Lc3, hQ3, ql3, qy3, qz3⟩, st3⟩ := Jvm.LawKit.callS X2 hx (y := (⟨"java/lang/StringUTF16", "compress", "([CII)[B"⟩ : MethodName)) hown (mvT hZ (own_w19 hw)) (mvT hZ (own_w20 hw)) (mvT hZ (own_w21 hw)) (mvT hZ (own_w22 hw)) (by decide) (backOf (W := 0) (rmC3_3 l Z a0 hw [] ca kc ch0 ch1 ch2 h0 n0 O0 Vc hk0 hk1 hk2) hZ (own_w22 hw) (own_w21 hw) (by decide) (by decide)) (g := (mkF m 36 #[.val (.ref a0r), .val (.ref ca), .val (.int 0), .val (.int 3), .val .null, .unset] [(.int 3), (.int 0), (.ref ca)])) rfl (by rw [hml]; rfl) (argsL := [(.ref ca), (.int 0), (.int 3)]) (rest := []) (lenOf pd_2 rfl) rfl (by show 2 * 0 + _ ≤ _; exact Nat.le_of_eq rfl) (hb hby d3_36) (fun _ _ => ⟨rfl, e2, (by decide : 0 + 1 ≤ _), (by decide : 0 + 3 ≤ _)⟩)
  dsimp only [Pt.U, Pt.locs, Pt.cells, Pt.slots] at X3 ql3 qy3 qz3 st3 hQ3
  rw [ql3, qy3, qz3] at X3
  obtain ⟨fb3, fk3, rfl, Nq3, Kp3, gb3, sb3, Vb3⟩ := hQ3
  have ne_a0r_fb3 : a0r ≠ fb3 := Nat.ne_of_lt (Nat.lt_of_lt_of_le lt_a0r_3 sb3)
  have ne_ca_fb3 : ca ≠ fb3 := Nat.ne_of_lt (Nat.lt_of_lt_of_le lt_ca_3 sb3)
  have O_3 := O0.keep Kp3 all0
  have K_3 := (Keep.refl h0 [a0r]).trans Kp3 all0
  have N3 := Fr.app N0 Nq3
  refine Goes.step (B := T3.setTop (mkF m 39 #[.val (.ref a0r), .val (.ref ca), .val (.int 0), .val (.int 3), .val .null, .unset] [(.ref fb3)])) st3 ?_
  refine Goes.step (fun _ k => pw_astore X3.here hx (l' := #[.val (.ref a0r), .val (.ref ca), .val (.int 0), .val (.int 3), .val .null, .val (.ref fb3)]) (hb hby d3_39) rfl rfl _ (pw_aloadN X3.here hx (hb hby d3_41) rfl rfl _ (pw_aload X3.here hx (hb hby d3_42) rfl rfl _ (pw_iloadN X3.here hx (hb hby d3_44) rfl _ k)))) ?_
  obtain ⟨_, _, ⟨T4, qL4, qk4, qn4⟩, -, X4, ⟨Lc4, hQ4, ql4, qy4, qz4⟩, st4⟩ := Jvm.LawKit.callS X3 hx (y := (⟨"java/lang/StringUTF16", "coderFromArrayLen", "([BI)B"⟩ : MethodName)) hown (mvT hZ (own_w27 hw)) (mvT hZ (own_w28 hw)) (mvT hZ (own_w21 hw)) (mvT hZ (own_w29 hw)) (by decide) (backOf (W := 1) (rmCF_3 l Z a0 hw [] fb3 fk3 [(.int (own_b ch0)), (.int (own_b ch1)), (.int (own_b ch2))] T3.heap n0 O_3 Vb3) hZ (own_w29 hw) (own_w21 hw) (by decide) (by decide)) (g := (mkF m 45 #[.val (.ref a0r), .val (.ref ca), .val (.int 0), .val (.int 3), .val .null, .val (.ref fb3)] [(.int 3), (.ref fb3), (.ref a0r)])) rfl (by rw [hml]; rfl) (argsL := [(.ref fb3), (.int 3)]) (rest := [(.ref a0r)]) (lenOf pd_3 rfl) rfl (by show 2 * 0 + _ ≤ _; exact Nat.le_of_eq rfl) (hb hby d3_45) (fun _ _ => ⟨rfl, rfl, (by decide : 1 + 0 ≤ _), (by decide : 3 + 0 ≤ _)⟩)
  dsimp only [Pt.U, Pt.locs, Pt.cells, Pt.slots] at X4 ql4 qy4 qz4 st4 hQ4
  rw [ql4, qy4, qz4] at X4
  obtain ⟨rfl, Nq4, eh4⟩ := hQ4
  have N4 := Fr.app N3 Nq4
  refine Goes.step (B := T4.setTop (mkF m 48 #[.val (.ref a0r), .val (.ref ca), .val (.int 0), .val (.int 3), .val .null, .val (.ref fb3)] [(.int 0), (.ref a0r)])) st4 ?_
  have f5 := (Er.keep Kp3)
  have f6 := (Fr_coder.keep Kp3 nin0)
  obtain ⟨T7, h7, X7, e7, W7, st7⟩ := putFN X4 hx hZ hown (own_w30 hw) Via.refl eh4 f6 f5 (Or.inr ⟨(own_w31 hw), rfl, hnm⟩) (own_w6 hw) (ty := .byte) (v' := (.int 0)) (by decide) rfl (by decide) (g := (mkF m 48 #[.val (.ref a0r), .val (.ref ca), .val (.int 0), .val (.int 3), .val .null, .val (.ref fb3)] [(.int 0), (.ref a0r)])) rfl rfl (hb hby d3_48)
  have Fw7 := f6.same W7
  have N7 := Fr.snoc X7 N4 gr
  have O_7 := O_3.wr W7 gr
  have K_7 := K_3.wr W7 (Or.inl (List.mem_of_getElem? (i := 0) rfl))
  refine Goes.step (B := T7.setTop (mkF m 51 #[.val (.ref a0r), .val (.ref ca), .val (.int 0), .val (.int 3), .val .null, .val (.ref fb3)] [])) st7 ?_
  refine Goes.step (fun _ k => pw_aloadN X7.here hx (hb hby d3_51) rfl rfl _ (pw_aload X7.here hx (hb hby d3_52) rfl rfl _ k)) ?_
  have f8 := (f5.wr W7)
  have f9 := ((Fr_value.keep Kp3 nin0).other W7 (Or.inr (slot_ne (Or.inr (own_w33 hw)) (Or.inr (own_w31 hw)) (by decide) (t := (.array .byte)) (t' := .byte) (by decide) (by decide))))
  obtain ⟨T10, h10, X10, e10, W10, st10⟩ := putF X7 hx hZ hown (host := "") (Or.inl (own_w32 hw)) Via.refl e7 f9 f8 (Or.inr ⟨(own_w33 hw), rfl, hnm⟩) (own_w6 hw) (ty := (.array .byte)) (by decide) rfl rfl (g := (mkF m 54 #[.val (.ref a0r), .val (.ref ca), .val (.int 0), .val (.int 3), .val .null, .val (.ref fb3)] [(.ref fb3), (.ref a0r)])) rfl rfl (hb hby d3_54)
  have Fw10 := f9.same W10
  have N10 := Fr.snoc X10 N7 gr
  have O_10 := O_7.wr W10 gr
  have K_10 := K_7.wr W10 (Or.inl (List.mem_of_getElem? (i := 0) rfl))
  refine Goes.step (B := T10.setTop (mkF m 57 #[.val (.ref a0r), .val (.ref ca), .val (.int 0), .val (.int 3), .val .null, .val (.ref fb3)] [])) st10 ?_
  have f11 := (f8.wr W10)
  have f12 := (Fw7.other W10 (Or.inr (slot_ne (Or.inr (own_w31 hw)) (Or.inr (own_w33 hw)) (by decide) (t := .byte) (t' := (.array .byte)) (by decide) (by decide))))
  have f13 := ((Vb3.other W7 (Ne.symm ne_a0r_fb3)).other W10 (Ne.symm ne_a0r_fb3))
  exact Goes.retV X10 hx e10 Bd.returns hlk (hb hby d3_57) (by decide) (by decide) (⟨rfl, N10, K_10, f11, fb3, fk3, Fw10, f12, f13⟩)
theorem ef_rmSI_3 (m : MethodId) (x0 : Addr) (x1 : Addr) : entryFrame m #[(.ref x0), (.ref x1)] 2 = mkF m 0 #[.val (.ref x0), .val (.ref x1)] [] := by first | (simp [entryFrame, mkF, argsToLocals, Value.category]; done) | rfl
def QSI_3 (Z : State) (a0r : Addr) (ca : Addr) (kc : ClassId) (cs : Int32) (ch0 : Int32) (ch1 : Int32) (ch2 : Int32) (h0 : Heap) (n0 : Nat) (v : Option Value) (h : Heap) (L : List Loc) : Prop := v = none ∧ Fr n0 L ∧ Keep h0 h [a0r] ∧ Exa Z h a0r "java/lang/String" ∧ ∃ (vb : Addr) (kv : ClassId), Fld Z h a0r "java/lang/String" "value" "[B" (.ref vb) ∧ Fld Z h a0r "java/lang/String" "coder" "B" (.int (0 : Int32)) ∧ Arv Z h vb kv .byte (3 : Int32) [.int (own_b ch0), .int (own_b ch1), .int (own_b ch2)] (.int (0 : Int32))
set_option maxRecDepth 65536 in
set_option maxHeartbeats 40000000 in
theorem rmSI_3 (l : Launch) (Z : State) (a0 : Array Value) (hw : ∀ d ∈ tables_1, d.before a0 Z = true) (ws : List Jvm.Cond) (a0r : Addr) (ca : Addr) (kc : ClassId) (cs : Int32) (ch0 : Int32) (ch1 : Int32) (ch2 : Int32) (h0 : Heap) (n0 : Nat) (O0 : Old Z n0 h0) (Er : Exa Z h0 a0r "java/lang/String") (gr : n0 ≤ a0r) (Fr_value : Fld Z h0 a0r "java/lang/String" "value" "[B" .null) (Fr_coder : Fld Z h0 a0r "java/lang/String" "coder" "B" (.int (0 : Int32))) (Vc : Arv Z h0 ca kc .char (3 : Int32) [.int ch0, .int ch1, .int ch2] (.int (0 : Int32))) (Sc : Sta Z h0 "java/lang/String" "COMPACT_STRINGS" "Z" (.int cs)) (hcs : ¬ cs = (0 : Int32)) (hk0 : own_ok ch0) (hk1 : own_ok ch1) (hk2 : own_ok ch2) :
    MetFree l (⟨"java/lang/String", "<init>", "([C)V"⟩ : MethodName) (head1 (Jvm.Cond.code (⟨"java/lang/String", "<init>", "([C)V"⟩ : MethodName) jdk_42_method_3_code 2 none :: ws) ({ frames := 3, cells := 1, slots := 3, locals := 52 } : Room)) (fun a U => a = #[(.ref a0r), (.ref ca)] ∧ Z.Warmed39 U.vm ∧ U.heap = h0) (fun _ _ _ _ _ => True) (fun _ U o U' => ∃ v L, o = .returned v ∧ QSI_3 Z a0r ca kc cs ch0 ch1 ch2 h0 n0 v U'.heap L ∧ FrameEnd U o U' L ({ frames := 3, cells := 1, slots := 3, locals := 52 } : Room).cells ({ frames := 3, cells := 1, slots := 3, locals := 52 } : Room).slots) := by
  refine MetFree.of_bodySF (plainFor_of_name pn_String) hisR ?_
  intro p e s m args below meth c s₁ Bd hml0 hP hK
  obtain ⟨rfl, hZ, hh⟩ := hP
  have hx := Bd.exec
  have hby := Bd.bytes
  have hlk : meth.locks = false := BodyLoose.notSynchronized Bd
  have hml : c.maxLocals = 2 := hml0
  have hown : s.vm.findClass "java/lang/String" = some m.cls := findClass_of_methodNamed Bd.named
  have hnm := (name_of_methodNamed Bd.named Bd.method).1
  have X0 : Stand p l e ({ frames := 3, cells := 1, slots := 3, locals := 52 } : Room) s m #[(.ref a0r), (.ref ca)] below meth c s₁ [] 0 0 := Stand.of_body Bd
  have e0 : s₁.heap = h0 := by rw [← hh, Bd.state]; rfl
  have N0 := Fr.nil n0
  show Goes p e below s (QSI_3 Z a0r ca kc cs ch0 ch1 ch2 h0 n0) ({ frames := 3, cells := 1, slots := 3, locals := 52 } : Room).cells ({ frames := 3, cells := 1, slots := 3, locals := 52 } : Room).slots (s₁.setTop (entryFrame m #[(.ref a0r), (.ref ca)] 2))
  refine Goes.enter (g' := (mkF m 0 #[.val (.ref a0r), .val (.ref ca)] [])) (ef_rmSI_3 m a0r ca) ?_
  refine Goes.step (fun _ k => pw_aloadN X0.here hx (hb hby d2_0) rfl rfl _ (pw_aloadN X0.here hx (hb hby d2_1) rfl rfl _ (pw_iconst X0.here hx (v := (0 : Int32)) (hb hby d2_2) rfl _ (pw_aloadN X0.here hx (hb hby d2_3) rfl rfl _ k)))) ?_
  obtain ⟨c1, Ar1, -, Sz1, Nn1, -, -⟩ := id Vc
  have len1 := X0.arraylength hx (by rw [e0]; exact Ar1.1) (State.isArrayOf_alike hZ.alike Ar1.2.1) (g := (mkF m 4 #[.val (.ref a0r), .val (.ref ca)] [(.ref ca), (.int 0), (.ref ca), (.ref a0r)])) rfl rfl (hb hby d2_4)
  rw [len_of Sz1 Nn1] at len1
  refine Goes.step (B := s₁.setTop (mkF m 5 #[.val (.ref a0r), .val (.ref ca)] [(.int 3), (.int 0), (.ref ca), (.ref a0r)])) len1 ?_
  refine Goes.step (fun _ k => pw_aconstNull X0.here hx (hb hby d2_5) _ k) ?_
  obtain ⟨_, _, ⟨T2, qL2, qk2, qn2⟩, -, X2, ⟨Lc2, hQ2, ql2, qy2, qz2⟩, st2⟩ := X0.specialBack hx (y := (⟨"java/lang/String", "<init>", "([CIILjava/lang/Void;)V"⟩ : MethodName)) rfl hown (mvT hZ (own_w11 hw)) (mvT hZ (own_w12 hw)) (mvT hZ (own_w14 hw)) (by decide) (backOf (W := 0) (rmSJ_3 l Z a0 hw [] a0r ca kc cs ch0 ch1 ch2 h0 n0 O0 Er gr Fr_value Fr_coder Vc Sc hcs hk0 hk1 hk2) hZ (own_w14 hw) (own_w7 hw) (by decide) (by decide)) (g := (mkF m 6 #[.val (.ref a0r), .val (.ref ca)] [.null, (.int 3), (.int 0), (.ref ca), (.ref a0r)])) rfl (by rw [hml]; rfl) (Steps.refl _) (a := a0r) (argsL := [(.ref ca), (.int 0), (.int 3), .null]) (rest := []) (lenOf pd_0 rfl) rfl (by show 2 * 0 + _ ≤ _; exact Nat.le_of_eq rfl) (hb hby d2_6) (fun _ _ => ⟨rfl, e0, (by decide : 0 + 1 ≤ _), (by decide : 0 + 3 ≤ _)⟩)
  dsimp only [Pt.U, Pt.locs, Pt.cells, Pt.slots] at X2 ql2 qy2 qz2 st2 hQ2
  rw [ql2, qy2, qz2] at X2
  obtain ⟨rfl, Nq2, Kp2, Ex2, sv2, sk2, Fsv2, Fsc2, Vsv2⟩ := hQ2
  have O_2 := O0.keep Kp2 (allS gr all0)
  have K_2 := (Keep.refl h0 [a0r]).trans Kp2 (allS (P := fun x => x ∈ _ ∨ _) (Or.inl (List.mem_of_getElem? (i := 0) rfl)) all0)
  have N2 := Fr.app N0 Nq2
  refine Goes.via (B := T2.setTop (mkF m 9 #[.val (.ref a0r), .val (.ref ca)] [])) st2 ?_
  exact Goes.retV X2 hx rfl Bd.returns hlk (hb hby d2_9) (by decide) (by decide) (⟨rfl, N2, K_2, Ex2, sv2, sk2, Fsv2, Fsc2, Vsv2⟩)
theorem ef_rmC5_4 (m : MethodId) (x0 : Addr) (x1 : Int32) (x2 : Addr) (x3 : Int32) (x4 : Int32) : entryFrame m #[(.ref x0), (.int x1), (.ref x2), (.int x3), (.int x4)] 7 = mkF m 0 #[.val (.ref x0), .val (.int x1), .val (.ref x2), .val (.int x3), .val (.int x4), .unset, .unset] [] := by first | (simp [entryFrame, mkF, argsToLocals, Value.category]; done) | rfl
def QC5_4 (Z : State) (ca : Addr) (kc : ClassId) (bb : Addr) (kb : ClassId) (ch0 : Int32) (ch1 : Int32) (ch2 : Int32) (ch3 : Int32) (h0 : Heap) (n0 : Nat) (v : Option Value) (h : Heap) (L : List Loc) : Prop := v = some (.int (4 : Int32)) ∧ Fr n0 L ∧ Keep h0 h [bb] ∧ Arv Z h bb kb .byte (4 : Int32) [.int (own_b ch0), .int (own_b ch1), .int (own_b ch2), .int (own_b ch3)] (.int (0 : Int32))
set_option maxRecDepth 65536 in
set_option maxHeartbeats 40000000 in
theorem rmC5_4 (l : Launch) (Z : State) (a0 : Array Value) (hw : ∀ d ∈ tables_1, d.before a0 Z = true) (ws : List Jvm.Cond) (ca : Addr) (kc : ClassId) (bb : Addr) (kb : ClassId) (ch0 : Int32) (ch1 : Int32) (ch2 : Int32) (ch3 : Int32) (h0 : Heap) (n0 : Nat) (O0 : Old Z n0 h0) (Vc : Arv Z h0 ca kc .char (4 : Int32) [.int ch0, .int ch1, .int ch2, .int ch3] (.int (0 : Int32))) (Vb : Arv Z h0 bb kb .byte (4 : Int32) [.int (0 : Int32), .int (0 : Int32), .int (0 : Int32), .int (0 : Int32)] (.int (0 : Int32))) (gb : n0 ≤ bb) (ncb : ca ≠ bb) (hk0 : own_ok ch0) (hk1 : own_ok ch1) (hk2 : own_ok ch2) (hk3 : own_ok ch3) :
    MetFree l (⟨"java/lang/StringUTF16", "compress", "([CI[BII)I"⟩ : MethodName) (head1 (Jvm.Cond.code (⟨"java/lang/StringUTF16", "compress", "([CI[BII)I"⟩ : MethodName) jdk_52_method_21_code 7 (some .int) :: ws) ({ frames := 0, cells := 0, slots := 0, locals := 0 } : Room)) (fun a U => a = #[(.ref ca), (.int 0), (.ref bb), (.int 0), (.int 4)] ∧ Z.Warmed39 U.vm ∧ U.heap = h0) (fun _ _ _ _ _ => True) (fun _ U o U' => ∃ v L, o = .returned v ∧ QC5_4 Z ca kc bb kb ch0 ch1 ch2 ch3 h0 n0 v U'.heap L ∧ FrameEnd U o U' L ({ frames := 0, cells := 0, slots := 0, locals := 0 } : Room).cells ({ frames := 0, cells := 0, slots := 0, locals := 0 } : Room).slots) := by
  refine MetFree.of_bodySF (plainFor_of_name pn_StringUTF16) hisR ?_
  intro p e s m args below meth c s₁ Bd hml0 hP hK
  obtain ⟨rfl, hZ, hh⟩ := hP
  have hx := Bd.exec
  have hby := Bd.bytes
  have hlk : meth.locks = false := BodyLoose.notSynchronized Bd
  have hml : c.maxLocals = 7 := hml0
  have hown : s.vm.findClass "java/lang/StringUTF16" = some m.cls := findClass_of_methodNamed Bd.named
  have hnm := (name_of_methodNamed Bd.named Bd.method).1
  have X0 : Stand p l e ({ frames := 0, cells := 0, slots := 0, locals := 0 } : Room) s m #[(.ref ca), (.int 0), (.ref bb), (.int 0), (.int 4)] below meth c s₁ [] 0 0 := Stand.of_body Bd
  have e0 : s₁.heap = h0 := by rw [← hh, Bd.state]; rfl
  have N0 := Fr.nil n0
  show Goes p e below s (QC5_4 Z ca kc bb kb ch0 ch1 ch2 ch3 h0 n0) ({ frames := 0, cells := 0, slots := 0, locals := 0 } : Room).cells ({ frames := 0, cells := 0, slots := 0, locals := 0 } : Room).slots (s₁.setTop (entryFrame m #[(.ref ca), (.int 0), (.ref bb), (.int 0), (.int 4)] 7))
  refine Goes.enter (g' := (mkF m 0 #[.val (.ref ca), .val (.int 0), .val (.ref bb), .val (.int 0), .val (.int 4), .unset, .unset] [])) (ef_rmC5_4 m ca ((0 : Int32)) bb ((0 : Int32)) ((4 : Int32))) ?_
  refine Goes.step (fun _ k => pw_iconst X0.here hx (v := (0 : Int32)) (hb hby d6_0) rfl _ (pw_istore X0.here hx (l' := #[.val (.ref ca), .val (.int 0), .val (.ref bb), .val (.int 0), .val (.int 4), .val (.int 0), .unset]) (hb hby d6_1) rfl _ (pw_iload X0.here hx (hb hby d6_3) rfl _ (pw_iload X0.here hx (hb hby d6_5) rfl _ (pw_icmpNo X0.here hx (hb hby d6_7) (tlt (by decide)).2.1 _ (pw_aloadN X0.here hx (hb hby d6_10) rfl rfl _ k)))))) ?_
  refine Goes.step (fun _ k => pw_iloadN X0.here hx (hb hby d6_11) rfl _ k) ?_
  obtain ⟨c1, Ar1, -, Sz1, Nn1, Hs1, -⟩ := id Vc
  have hin1 : ¬ ((0 : Int32) < 0 ∨ c1.slots.size ≤ ((0 : Int32)).toNatClampNeg) := inb_of Sz1 ⟨by decide, by decide⟩
  refine Goes.step (B := s₁.setTop (mkF m 13 #[.val (.ref ca), .val (.int 0), .val (.ref bb), .val (.int 0), .val (.int 4), .val (.int 0), .unset] [(.int ch0)])) (X0.caload hx (j := (0 : Int32)) (v := (.int ch0)) (by rw [e0]; exact Ar1.1) (State.isArrayOf_alike hZ.alike Ar1.2.1) Ar1.2.2 hin1 (Has.at Hs1 hin1 rfl) (g := (mkF m 12 #[.val (.ref ca), .val (.int 0), .val (.ref bb), .val (.int 0), .val (.int 4), .val (.int 0), .unset] [(.int 0), (.ref ca)])) rfl rfl (hb hby d6_12)) ?_
  refine Goes.step (fun _ k => pw_istore X0.here hx (l' := #[.val (.ref ca), .val (.int 0), .val (.ref bb), .val (.int 0), .val (.int 4), .val (.int 0), .val (.int ch0)]) (hb hby d6_13) rfl _ (pw_iload X0.here hx (hb hby d6_15) rfl _ (pw_sipush X0.here hx (v := (255 : Int32)) (hb hby d6_17) rfl _ (pw_icmpYes X0.here hx (pc' := 26) (hb hby d6_20) (flt (own_le hk0)).2.2.2 (by decide) (by decide) _ (pw_aloadN X0.here hx (hb hby d6_26) rfl rfl _ (pw_iloadN X0.here hx (hb hby d6_27) rfl _ k)))))) ?_
  refine Goes.step (fun _ k => pw_iload X0.here hx (hb hby d6_28) rfl _ k) ?_
  refine Goes.step (B := s₁.setTop (mkF m 31 #[.val (.ref ca), .val (.int 0), .val (.ref bb), .val (.int 0), .val (.int 4), .val (.int 0), .val (.int ch0)] [(.int (ch0.toInt8.toInt32)), (.int 0), (.ref bb)])) (fun _ k => XS.i2b X0.here hx rfl (hb hby d6_30) rfl k) ?_
  obtain ⟨c2, Ar2, q2, Sz2, Nn2, Hs2, Gs2⟩ := id Vb
  have hin2 : ¬ ((0 : Int32) < 0 ∨ c2.slots.size ≤ ((0 : Int32)).toNatClampNeg) := inb_of Sz2 ⟨by decide, by decide⟩
  obtain ⟨T2, h2, X2, e2, W2, st2⟩ := stB X0 hx hZ e0 Ar2 (j := (0 : Int32)) hin2 (g := (mkF m 31 #[.val (.ref ca), .val (.int 0), .val (.ref bb), .val (.int 0), .val (.int 4), .val (.int 0), .val (.int ch0)] [(.int (ch0.toInt8.toInt32)), (.int 0), (.ref bb)])) rfl rfl (hb hby d6_31)
  have V2 : Arv Z h2 bb kb .byte (4 : Int32) [(.int (nar .byte (ch0.toInt8.toInt32))), (.int 0), (.int 0), (.int 0)] (.int 0) := Arv.set Ar2 q2 Sz2 Nn2 Hs2 Gs2 (fits_nar_byte _) W2 0 rfl (Nat.le_of_ble_eq_true rfl)
  have N2 := Fr.snoc X2 N0 gb
  have O_2 := O0.wr W2 gb
  have K_2 := (Keep.refl h0 [bb]).wr W2 (Or.inl (List.mem_of_getElem? (i := 0) rfl))
  refine Goes.step (B := T2.setTop (mkF m 32 #[.val (.ref ca), .val (.int 0), .val (.ref bb), .val (.int 0), .val (.int 4), .val (.int 0), .val (.int ch0)] [])) st2 ?_
  refine Goes.step (fun _ k => pw_iinc X2.here hx (l' := #[.val (.ref ca), .val (.int 1), .val (.ref bb), .val (.int 0), .val (.int 4), .val (.int 0), .val (.int ch0)]) (hb hby d6_32) rfl rfl _ (pw_iinc X2.here hx (l' := #[.val (.ref ca), .val (.int 1), .val (.ref bb), .val (.int 1), .val (.int 4), .val (.int 0), .val (.int ch0)]) (hb hby d6_35) rfl rfl _ (pw_iinc X2.here hx (l' := #[.val (.ref ca), .val (.int 1), .val (.ref bb), .val (.int 1), .val (.int 4), .val (.int 1), .val (.int ch0)]) (hb hby d6_38) rfl rfl _ (pw_goto X2.here hx (pc' := 3) (hb hby d6_41) (by decide) (by decide) _ (pw_iload X2.here hx (hb hby d6_3) rfl _ (pw_iload X2.here hx (hb hby d6_5) rfl _ k)))))) ?_
  refine Goes.step (fun _ k => pw_icmpNo X2.here hx (hb hby d6_7) (tlt (by decide)).2.1 _ (pw_aloadN X2.here hx (hb hby d6_10) rfl rfl _ (pw_iloadN X2.here hx (hb hby d6_11) rfl _ k))) ?_
  have f3 := (Vc.other W2 ncb)
  obtain ⟨c4, Ar4, -, Sz4, Nn4, Hs4, -⟩ := id f3
  have hin4 : ¬ ((1 : Int32) < 0 ∨ c4.slots.size ≤ ((1 : Int32)).toNatClampNeg) := inb_of Sz4 ⟨by decide, by decide⟩
  refine Goes.step (B := T2.setTop (mkF m 13 #[.val (.ref ca), .val (.int 1), .val (.ref bb), .val (.int 1), .val (.int 4), .val (.int 1), .val (.int ch0)] [(.int ch1)])) (X2.caload hx (j := (1 : Int32)) (v := (.int ch1)) (by rw [e2]; exact Ar4.1) (State.isArrayOf_alike hZ.alike Ar4.2.1) Ar4.2.2 hin4 (Has.at Hs4 hin4 rfl) (g := (mkF m 12 #[.val (.ref ca), .val (.int 1), .val (.ref bb), .val (.int 1), .val (.int 4), .val (.int 1), .val (.int ch0)] [(.int 1), (.ref ca)])) rfl rfl (hb hby d6_12)) ?_
  refine Goes.step (fun _ k => pw_istore X2.here hx (l' := #[.val (.ref ca), .val (.int 1), .val (.ref bb), .val (.int 1), .val (.int 4), .val (.int 1), .val (.int ch1)]) (hb hby d6_13) rfl _ (pw_iload X2.here hx (hb hby d6_15) rfl _ (pw_sipush X2.here hx (v := (255 : Int32)) (hb hby d6_17) rfl _ (pw_icmpYes X2.here hx (pc' := 26) (hb hby d6_20) (flt (own_le hk1)).2.2.2 (by decide) (by decide) _ (pw_aloadN X2.here hx (hb hby d6_26) rfl rfl _ (pw_iloadN X2.here hx (hb hby d6_27) rfl _ k)))))) ?_
  refine Goes.step (fun _ k => pw_iload X2.here hx (hb hby d6_28) rfl _ k) ?_
  refine Goes.step (B := T2.setTop (mkF m 31 #[.val (.ref ca), .val (.int 1), .val (.ref bb), .val (.int 1), .val (.int 4), .val (.int 1), .val (.int ch1)] [(.int (ch1.toInt8.toInt32)), (.int 1), (.ref bb)])) (fun _ k => XS.i2b X2.here hx rfl (hb hby d6_30) rfl k) ?_
  obtain ⟨c5, Ar5, q5, Sz5, Nn5, Hs5, Gs5⟩ := id V2
  have hin5 : ¬ ((1 : Int32) < 0 ∨ c5.slots.size ≤ ((1 : Int32)).toNatClampNeg) := inb_of Sz5 ⟨by decide, by decide⟩
  obtain ⟨T5, h5, X5, e5, W5, st5⟩ := stB X2 hx hZ e2 Ar5 (j := (1 : Int32)) hin5 (g := (mkF m 31 #[.val (.ref ca), .val (.int 1), .val (.ref bb), .val (.int 1), .val (.int 4), .val (.int 1), .val (.int ch1)] [(.int (ch1.toInt8.toInt32)), (.int 1), (.ref bb)])) rfl rfl (hb hby d6_31)
  have V5 : Arv Z h5 bb kb .byte (4 : Int32) [(.int (nar .byte (ch0.toInt8.toInt32))), (.int (nar .byte (ch1.toInt8.toInt32))), (.int 0), (.int 0)] (.int 0) := Arv.set Ar5 q5 Sz5 Nn5 Hs5 Gs5 (fits_nar_byte _) W5 1 rfl (Nat.le_of_ble_eq_true rfl)
  have N5 := Fr.snoc X5 N2 gb
  have O_5 := O_2.wr W5 gb
  have K_5 := K_2.wr W5 (Or.inl (List.mem_of_getElem? (i := 0) rfl))
  refine Goes.step (B := T5.setTop (mkF m 32 #[.val (.ref ca), .val (.int 1), .val (.ref bb), .val (.int 1), .val (.int 4), .val (.int 1), .val (.int ch1)] [])) st5 ?_
  refine Goes.step (fun _ k => pw_iinc X5.here hx (l' := #[.val (.ref ca), .val (.int 2), .val (.ref bb), .val (.int 1), .val (.int 4), .val (.int 1), .val (.int ch1)]) (hb hby d6_32) rfl rfl _ (pw_iinc X5.here hx (l' := #[.val (.ref ca), .val (.int 2), .val (.ref bb), .val (.int 2), .val (.int 4), .val (.int 1), .val (.int ch1)]) (hb hby d6_35) rfl rfl _ (pw_iinc X5.here hx (l' := #[.val (.ref ca), .val (.int 2), .val (.ref bb), .val (.int 2), .val (.int 4), .val (.int 2), .val (.int ch1)]) (hb hby d6_38) rfl rfl _ (pw_goto X5.here hx (pc' := 3) (hb hby d6_41) (by decide) (by decide) _ (pw_iload X5.here hx (hb hby d6_3) rfl _ (pw_iload X5.here hx (hb hby d6_5) rfl _ k)))))) ?_
  refine Goes.step (fun _ k => pw_icmpNo X5.here hx (hb hby d6_7) (tlt (by decide)).2.1 _ (pw_aloadN X5.here hx (hb hby d6_10) rfl rfl _ (pw_iloadN X5.here hx (hb hby d6_11) rfl _ k))) ?_
  have f6 := (f3.other W5 ncb)
  obtain ⟨c7, Ar7, -, Sz7, Nn7, Hs7, -⟩ := id f6
  have hin7 : ¬ ((2 : Int32) < 0 ∨ c7.slots.size ≤ ((2 : Int32)).toNatClampNeg) := inb_of Sz7 ⟨by decide, by decide⟩
  refine Goes.step (B := T5.setTop (mkF m 13 #[.val (.ref ca), .val (.int 2), .val (.ref bb), .val (.int 2), .val (.int 4), .val (.int 2), .val (.int ch1)] [(.int ch2)])) (X5.caload hx (j := (2 : Int32)) (v := (.int ch2)) (by rw [e5]; exact Ar7.1) (State.isArrayOf_alike hZ.alike Ar7.2.1) Ar7.2.2 hin7 (Has.at Hs7 hin7 rfl) (g := (mkF m 12 #[.val (.ref ca), .val (.int 2), .val (.ref bb), .val (.int 2), .val (.int 4), .val (.int 2), .val (.int ch1)] [(.int 2), (.ref ca)])) rfl rfl (hb hby d6_12)) ?_
  refine Goes.step (fun _ k => pw_istore X5.here hx (l' := #[.val (.ref ca), .val (.int 2), .val (.ref bb), .val (.int 2), .val (.int 4), .val (.int 2), .val (.int ch2)]) (hb hby d6_13) rfl _ (pw_iload X5.here hx (hb hby d6_15) rfl _ (pw_sipush X5.here hx (v := (255 : Int32)) (hb hby d6_17) rfl _ (pw_icmpYes X5.here hx (pc' := 26) (hb hby d6_20) (flt (own_le hk2)).2.2.2 (by decide) (by decide) _ (pw_aloadN X5.here hx (hb hby d6_26) rfl rfl _ (pw_iloadN X5.here hx (hb hby d6_27) rfl _ k)))))) ?_
  refine Goes.step (fun _ k => pw_iload X5.here hx (hb hby d6_28) rfl _ k) ?_
  refine Goes.step (B := T5.setTop (mkF m 31 #[.val (.ref ca), .val (.int 2), .val (.ref bb), .val (.int 2), .val (.int 4), .val (.int 2), .val (.int ch2)] [(.int (ch2.toInt8.toInt32)), (.int 2), (.ref bb)])) (fun _ k => XS.i2b X5.here hx rfl (hb hby d6_30) rfl k) ?_
  obtain ⟨c8, Ar8, q8, Sz8, Nn8, Hs8, Gs8⟩ := id V5
  have hin8 : ¬ ((2 : Int32) < 0 ∨ c8.slots.size ≤ ((2 : Int32)).toNatClampNeg) := inb_of Sz8 ⟨by decide, by decide⟩
  obtain ⟨T8, h8, X8, e8, W8, st8⟩ := stB X5 hx hZ e5 Ar8 (j := (2 : Int32)) hin8 (g := (mkF m 31 #[.val (.ref ca), .val (.int 2), .val (.ref bb), .val (.int 2), .val (.int 4), .val (.int 2), .val (.int ch2)] [(.int (ch2.toInt8.toInt32)), (.int 2), (.ref bb)])) rfl rfl (hb hby d6_31)
  have V8 : Arv Z h8 bb kb .byte (4 : Int32) [(.int (nar .byte (ch0.toInt8.toInt32))), (.int (nar .byte (ch1.toInt8.toInt32))), (.int (nar .byte (ch2.toInt8.toInt32))), (.int 0)] (.int 0) := Arv.set Ar8 q8 Sz8 Nn8 Hs8 Gs8 (fits_nar_byte _) W8 2 rfl (Nat.le_of_ble_eq_true rfl)
  have N8 := Fr.snoc X8 N5 gb
  have O_8 := O_5.wr W8 gb
  have K_8 := K_5.wr W8 (Or.inl (List.mem_of_getElem? (i := 0) rfl))
  refine Goes.step (B := T8.setTop (mkF m 32 #[.val (.ref ca), .val (.int 2), .val (.ref bb), .val (.int 2), .val (.int 4), .val (.int 2), .val (.int ch2)] [])) st8 ?_
  refine Goes.step (fun _ k => pw_iinc X8.here hx (l' := #[.val (.ref ca), .val (.int 3), .val (.ref bb), .val (.int 2), .val (.int 4), .val (.int 2), .val (.int ch2)]) (hb hby d6_32) rfl rfl _ (pw_iinc X8.here hx (l' := #[.val (.ref ca), .val (.int 3), .val (.ref bb), .val (.int 3), .val (.int 4), .val (.int 2), .val (.int ch2)]) (hb hby d6_35) rfl rfl _ (pw_iinc X8.here hx (l' := #[.val (.ref ca), .val (.int 3), .val (.ref bb), .val (.int 3), .val (.int 4), .val (.int 3), .val (.int ch2)]) (hb hby d6_38) rfl rfl _ (pw_goto X8.here hx (pc' := 3) (hb hby d6_41) (by decide) (by decide) _ (pw_iload X8.here hx (hb hby d6_3) rfl _ (pw_iload X8.here hx (hb hby d6_5) rfl _ k)))))) ?_
  refine Goes.step (fun _ k => pw_icmpNo X8.here hx (hb hby d6_7) (tlt (by decide)).2.1 _ (pw_aloadN X8.here hx (hb hby d6_10) rfl rfl _ (pw_iloadN X8.here hx (hb hby d6_11) rfl _ k))) ?_
  have f9 := (f6.other W8 ncb)
  obtain ⟨c10, Ar10, -, Sz10, Nn10, Hs10, -⟩ := id f9
  have hin10 : ¬ ((3 : Int32) < 0 ∨ c10.slots.size ≤ ((3 : Int32)).toNatClampNeg) := inb_of Sz10 ⟨by decide, by decide⟩
  refine Goes.step (B := T8.setTop (mkF m 13 #[.val (.ref ca), .val (.int 3), .val (.ref bb), .val (.int 3), .val (.int 4), .val (.int 3), .val (.int ch2)] [(.int ch3)])) (X8.caload hx (j := (3 : Int32)) (v := (.int ch3)) (by rw [e8]; exact Ar10.1) (State.isArrayOf_alike hZ.alike Ar10.2.1) Ar10.2.2 hin10 (Has.at Hs10 hin10 rfl) (g := (mkF m 12 #[.val (.ref ca), .val (.int 3), .val (.ref bb), .val (.int 3), .val (.int 4), .val (.int 3), .val (.int ch2)] [(.int 3), (.ref ca)])) rfl rfl (hb hby d6_12)) ?_
  refine Goes.step (fun _ k => pw_istore X8.here hx (l' := #[.val (.ref ca), .val (.int 3), .val (.ref bb), .val (.int 3), .val (.int 4), .val (.int 3), .val (.int ch3)]) (hb hby d6_13) rfl _ (pw_iload X8.here hx (hb hby d6_15) rfl _ (pw_sipush X8.here hx (v := (255 : Int32)) (hb hby d6_17) rfl _ (pw_icmpYes X8.here hx (pc' := 26) (hb hby d6_20) (flt (own_le hk3)).2.2.2 (by decide) (by decide) _ (pw_aloadN X8.here hx (hb hby d6_26) rfl rfl _ (pw_iloadN X8.here hx (hb hby d6_27) rfl _ k)))))) ?_
  refine Goes.step (fun _ k => pw_iload X8.here hx (hb hby d6_28) rfl _ k) ?_
  refine Goes.step (B := T8.setTop (mkF m 31 #[.val (.ref ca), .val (.int 3), .val (.ref bb), .val (.int 3), .val (.int 4), .val (.int 3), .val (.int ch3)] [(.int (ch3.toInt8.toInt32)), (.int 3), (.ref bb)])) (fun _ k => XS.i2b X8.here hx rfl (hb hby d6_30) rfl k) ?_
  obtain ⟨c11, Ar11, q11, Sz11, Nn11, Hs11, Gs11⟩ := id V8
  have hin11 : ¬ ((3 : Int32) < 0 ∨ c11.slots.size ≤ ((3 : Int32)).toNatClampNeg) := inb_of Sz11 ⟨by decide, by decide⟩
  obtain ⟨T11, h11, X11, e11, W11, st11⟩ := stB X8 hx hZ e8 Ar11 (j := (3 : Int32)) hin11 (g := (mkF m 31 #[.val (.ref ca), .val (.int 3), .val (.ref bb), .val (.int 3), .val (.int 4), .val (.int 3), .val (.int ch3)] [(.int (ch3.toInt8.toInt32)), (.int 3), (.ref bb)])) rfl rfl (hb hby d6_31)
  have V11 : Arv Z h11 bb kb .byte (4 : Int32) [(.int (nar .byte (ch0.toInt8.toInt32))), (.int (nar .byte (ch1.toInt8.toInt32))), (.int (nar .byte (ch2.toInt8.toInt32))), (.int (nar .byte (ch3.toInt8.toInt32)))] (.int 0) := Arv.set Ar11 q11 Sz11 Nn11 Hs11 Gs11 (fits_nar_byte _) W11 3 rfl (Nat.le_of_ble_eq_true rfl)
  have N11 := Fr.snoc X11 N8 gb
  have O_11 := O_8.wr W11 gb
  have K_11 := K_8.wr W11 (Or.inl (List.mem_of_getElem? (i := 0) rfl))
  refine Goes.step (B := T11.setTop (mkF m 32 #[.val (.ref ca), .val (.int 3), .val (.ref bb), .val (.int 3), .val (.int 4), .val (.int 3), .val (.int ch3)] [])) st11 ?_
  refine Goes.step (fun _ k => pw_iinc X11.here hx (l' := #[.val (.ref ca), .val (.int 4), .val (.ref bb), .val (.int 3), .val (.int 4), .val (.int 3), .val (.int ch3)]) (hb hby d6_32) rfl rfl _ (pw_iinc X11.here hx (l' := #[.val (.ref ca), .val (.int 4), .val (.ref bb), .val (.int 4), .val (.int 4), .val (.int 3), .val (.int ch3)]) (hb hby d6_35) rfl rfl _ (pw_iinc X11.here hx (l' := #[.val (.ref ca), .val (.int 4), .val (.ref bb), .val (.int 4), .val (.int 4), .val (.int 4), .val (.int ch3)]) (hb hby d6_38) rfl rfl _ (pw_goto X11.here hx (pc' := 3) (hb hby d6_41) (by decide) (by decide) _ (pw_iload X11.here hx (hb hby d6_3) rfl _ (pw_iload X11.here hx (hb hby d6_5) rfl _ k)))))) ?_
  refine Goes.step (fun _ k => pw_icmpYes X11.here hx (pc' := 44) (hb hby d6_7) (flt (by decide)).2.1 (by decide) (by decide) _ (pw_iload X11.here hx (hb hby d6_44) rfl _ k)) ?_
  exact Goes.retI X11 hx e11 Bd.returns hlk (hb hby d6_46) (by decide) (by decide) (⟨rfl, N11, K_11, V11⟩)
theorem ef_rmC3_4 (m : MethodId) (x0 : Addr) (x1 : Int32) (x2 : Int32) : entryFrame m #[(.ref x0), (.int x1), (.int x2)] 6 = mkF m 0 #[.val (.ref x0), .val (.int x1), .val (.int x2), .unset, .unset, .unset] [] := by first | (simp [entryFrame, mkF, argsToLocals, Value.category]; done) | rfl
def QC3_4 (Z : State) (ca : Addr) (kc : ClassId) (ch0 : Int32) (ch1 : Int32) (ch2 : Int32) (ch3 : Int32) (h0 : Heap) (n0 : Nat) (v : Option Value) (h : Heap) (L : List Loc) : Prop := ∃ (b : Addr) (k : ClassId), v = some (.ref b) ∧ Fr n0 L ∧ Keep h0 h [] ∧ n0 ≤ b ∧ h0.size ≤ b ∧ Arv Z h b k .byte (4 : Int32) [(.int (own_b ch0)), (.int (own_b ch1)), (.int (own_b ch2)), (.int (own_b ch3))] (.int 0)
set_option maxRecDepth 65536 in
set_option maxHeartbeats 40000000 in
theorem rmC3_4 (l : Launch) (Z : State) (a0 : Array Value) (hw : ∀ d ∈ tables_1, d.before a0 Z = true) (ws : List Jvm.Cond) (ca : Addr) (kc : ClassId) (ch0 : Int32) (ch1 : Int32) (ch2 : Int32) (ch3 : Int32) (h0 : Heap) (n0 : Nat) (O0 : Old Z n0 h0) (Vc : Arv Z h0 ca kc .char (4 : Int32) [.int ch0, .int ch1, .int ch2, .int ch3] (.int (0 : Int32))) (hk0 : own_ok ch0) (hk1 : own_ok ch1) (hk2 : own_ok ch2) (hk3 : own_ok ch3) :
    MetFree l (⟨"java/lang/StringUTF16", "compress", "([CII)[B"⟩ : MethodName) (head1 (Jvm.Cond.code (⟨"java/lang/StringUTF16", "compress", "([CII)[B"⟩ : MethodName) jdk_52_method_16_code 6 (some (.array .byte)) :: ws) ({ frames := 1, cells := 1, slots := 4, locals := 18 } : Room)) (fun a U => a = #[(.ref ca), (.int 0), (.int 4)] ∧ Z.Warmed39 U.vm ∧ U.heap = h0) (fun _ _ _ _ _ => True) (fun _ U o U' => ∃ v L, o = .returned v ∧ QC3_4 Z ca kc ch0 ch1 ch2 ch3 h0 n0 v U'.heap L ∧ FrameEnd U o U' L ({ frames := 1, cells := 1, slots := 4, locals := 18 } : Room).cells ({ frames := 1, cells := 1, slots := 4, locals := 18 } : Room).slots) := by
  refine MetFree.of_bodySF (plainFor_of_name pn_StringUTF16) hisR ?_
  intro p e s m args below meth c s₁ Bd hml0 hP hK
  obtain ⟨rfl, hZ, hh⟩ := hP
  have hx := Bd.exec
  have hby := Bd.bytes
  have hlk : meth.locks = false := BodyLoose.notSynchronized Bd
  have hml : c.maxLocals = 6 := hml0
  have hown : s.vm.findClass "java/lang/StringUTF16" = some m.cls := findClass_of_methodNamed Bd.named
  have hnm := (name_of_methodNamed Bd.named Bd.method).1
  have X0 : Stand p l e ({ frames := 1, cells := 1, slots := 4, locals := 18 } : Room) s m #[(.ref ca), (.int 0), (.int 4)] below meth c s₁ [] 0 0 := Stand.of_body Bd
  have e0 : s₁.heap = h0 := by rw [← hh, Bd.state]; rfl
  have N0 := Fr.nil n0
  show Goes p e below s (QC3_4 Z ca kc ch0 ch1 ch2 ch3 h0 n0) ({ frames := 1, cells := 1, slots := 4, locals := 18 } : Room).cells ({ frames := 1, cells := 1, slots := 4, locals := 18 } : Room).slots (s₁.setTop (entryFrame m #[(.ref ca), (.int 0), (.int 4)] 6))
  refine Goes.enter (g' := (mkF m 0 #[.val (.ref ca), .val (.int 0), .val (.int 4), .unset, .unset, .unset] [])) (ef_rmC3_4 m ca ((0 : Int32)) ((4 : Int32))) ?_
  refine Goes.step (fun _ k => pw_iloadN X0.here hx (hb hby d5_0) rfl _ k) ?_
  obtain ⟨T1, h1, k1, X1, e1, E1, A1, st1⟩ := newP (aty := .byte) X0 hx hZ (own_w23 hw) e0 (g := (mkF m 1 #[.val (.ref ca), .val (.int 0), .val (.int 4), .unset, .unset, .unset] [(.int 4)])) rfl (hb hby d5_1) rfl (by decide) (cap := 4) (by decide) (by decide) (by decide) (by decide)
  obtain ⟨b1, g1⟩ : ∃ z, z = h0.size := ⟨_, rfl⟩
  rw [← g1] at A1 st1
  have ne_ca_b1 : ca ≠ b1 := Nat.ne_of_lt (Nat.lt_of_lt_of_le Vc.lt (Nat.le_of_eq g1.symm))
  have g_b1 : n0 ≤ b1 := Nat.le_trans (own_z O0) (Nat.le_of_eq g1.symm)
  have O_1 := O0.ext E1
  have sz_b1 : h0.size ≤ b1 := Nat.le_trans (Keep.refl h0 []).1 (Nat.le_of_eq g1.symm)
  have K_1 := (Keep.refl h0 []).ext E1
  have V_b1 : Arv Z h1 b1 k1 .byte (4 : Int32) [(.int 0), (.int 0), (.int 0), (.int 0)] (.int 0) := (Arv.new A1 (by decide)).pad (pad_rep [] (.int 0) 4)
  refine Goes.step (B := T1.setTop (mkF m 3 #[.val (.ref ca), .val (.int 0), .val (.int 4), .unset, .unset, .unset] [(.ref b1)])) st1 ?_
  refine Goes.step (fun _ k => pw_astoreN X1.here hx (l' := #[.val (.ref ca), .val (.int 0), .val (.int 4), .val (.ref b1), .unset, .unset]) (hb hby d5_3) rfl rfl _ (pw_aloadN X1.here hx (hb hby d5_4) rfl rfl _ (pw_iloadN X1.here hx (hb hby d5_5) rfl _ (pw_aloadN X1.here hx (hb hby d5_6) rfl rfl _ (pw_iconst X1.here hx (v := (0 : Int32)) (hb hby d5_7) rfl _ (pw_iloadN X1.here hx (hb hby d5_8) rfl _ k)))))) ?_
  have f3 := (Vc.ext E1)
  obtain ⟨_, _, ⟨T2, qL2, qk2, qn2⟩, -, X2, ⟨Lc2, hQ2, ql2, qy2, qz2⟩, st2⟩ := Jvm.LawKit.callS X1 hx (y := (⟨"java/lang/StringUTF16", "compress", "([CI[BII)I"⟩ : MethodName)) hown (mvT hZ (own_w24 hw)) (mvT hZ (own_w25 hw)) (mvT hZ (own_w21 hw)) (mvT hZ (own_w26 hw)) (by decide) (backOf (W := 0) (rmC5_4 l Z a0 hw [] ca kc b1 k1 ch0 ch1 ch2 ch3 h1 n0 O_1 f3 V_b1 g_b1 ne_ca_b1 hk0 hk1 hk2 hk3) hZ (own_w26 hw) (own_w21 hw) (by decide) (by decide)) (g := (mkF m 9 #[.val (.ref ca), .val (.int 0), .val (.int 4), .val (.ref b1), .unset, .unset] [(.int 4), (.int 0), (.ref b1), (.int 0), (.ref ca)])) rfl (by rw [hml]; rfl) (argsL := [(.ref ca), (.int 0), (.ref b1), (.int 0), (.int 4)]) (rest := []) (lenOf pd_1 rfl) rfl (by show 2 * 0 + _ ≤ _; exact Nat.le_of_eq rfl) (hb hby d5_9) (fun _ _ => ⟨rfl, e1, (by decide : 1 + 0 ≤ _), (by decide : 4 + 0 ≤ _)⟩)
  dsimp only [Pt.U, Pt.locs, Pt.cells, Pt.slots] at X2 ql2 qy2 qz2 st2 hQ2
  rw [ql2, qy2, qz2] at X2
  obtain ⟨rfl, Nq2, Kp2, Vq2⟩ := hQ2
  have O_2 := O_1.keep Kp2 (allS g_b1 all0)
  have K_2 := K_1.trans Kp2 (allS (P := fun x => x ∈ _ ∨ _) (Or.inr sz_b1) all0)
  have N2 := Fr.app N0 Nq2
  refine Goes.step (B := T2.setTop (mkF m 12 #[.val (.ref ca), .val (.int 0), .val (.int 4), .val (.ref b1), .unset, .unset] [(.int 4)])) st2 ?_
  refine Goes.step (fun _ k => pw_istore X2.here hx (l' := #[.val (.ref ca), .val (.int 0), .val (.int 4), .val (.ref b1), .val (.int 4), .unset]) (hb hby d5_12) rfl _ (pw_iload X2.here hx (hb hby d5_14) rfl _ (pw_iloadN X2.here hx (hb hby d5_16) rfl _ (pw_icmpYes X2.here hx (pc' := 57) (hb hby d5_17) (teq (by decide)).1 (by decide) (by decide) _ (pw_aloadN X2.here hx (hb hby d5_57) rfl rfl _ k))))) ?_
  exact Goes.retA X2 hx rfl Bd.returns rfl rfl hlk (hb hby d5_58) (by decide) (by decide) (⟨b1, k1, rfl, N2, K_2, g_b1, sz_b1, Vq2⟩)
theorem ef_rmCF_4 (m : MethodId) (x0 : Addr) (x1 : Int32) : entryFrame m #[(.ref x0), (.int x1)] 2 = mkF m 0 #[.val (.ref x0), .val (.int x1)] [] := by first | (simp [entryFrame, mkF, argsToLocals, Value.category]; done) | rfl
def QCF_4 (Z : State) (bb : Addr) (kb : ClassId) (ls : List Value) (h0 : Heap) (n0 : Nat) (v : Option Value) (h : Heap) (L : List Loc) : Prop := v = some (.int 0) ∧ Fr n0 L ∧ h = h0
set_option maxRecDepth 65536 in
set_option maxHeartbeats 40000000 in
theorem rmCF_4 (l : Launch) (Z : State) (a0 : Array Value) (hw : ∀ d ∈ tables_1, d.before a0 Z = true) (ws : List Jvm.Cond) (bb : Addr) (kb : ClassId) (ls : List Value) (h0 : Heap) (n0 : Nat) (O0 : Old Z n0 h0) (Vb : Arv Z h0 bb kb .byte (4 : Int32) ls (.int (0 : Int32))) :
    MetFree l (⟨"java/lang/StringUTF16", "coderFromArrayLen", "([BI)B"⟩ : MethodName) (head1 (Jvm.Cond.code (⟨"java/lang/StringUTF16", "coderFromArrayLen", "([BI)B"⟩ : MethodName) jdk_52_method_15_code 2 (some .byte) :: ws) ({ frames := 0, cells := 0, slots := 0, locals := 0 } : Room)) (fun a U => a = #[(.ref bb), (.int 4)] ∧ Z.Warmed39 U.vm ∧ U.heap = h0) (fun _ _ _ _ _ => True) (fun _ U o U' => ∃ v L, o = .returned v ∧ QCF_4 Z bb kb ls h0 n0 v U'.heap L ∧ FrameEnd U o U' L ({ frames := 0, cells := 0, slots := 0, locals := 0 } : Room).cells ({ frames := 0, cells := 0, slots := 0, locals := 0 } : Room).slots) := by
  refine MetFree.of_bodySF (plainFor_of_name pn_StringUTF16) hisR ?_
  intro p e s m args below meth c s₁ Bd hml0 hP hK
  obtain ⟨rfl, hZ, hh⟩ := hP
  have hx := Bd.exec
  have hby := Bd.bytes
  have hlk : meth.locks = false := BodyLoose.notSynchronized Bd
  have hml : c.maxLocals = 2 := hml0
  have hown : s.vm.findClass "java/lang/StringUTF16" = some m.cls := findClass_of_methodNamed Bd.named
  have hnm := (name_of_methodNamed Bd.named Bd.method).1
  have X0 : Stand p l e ({ frames := 0, cells := 0, slots := 0, locals := 0 } : Room) s m #[(.ref bb), (.int 4)] below meth c s₁ [] 0 0 := Stand.of_body Bd
  have e0 : s₁.heap = h0 := by rw [← hh, Bd.state]; rfl
  have N0 := Fr.nil n0
  show Goes p e below s (QCF_4 Z bb kb ls h0 n0) ({ frames := 0, cells := 0, slots := 0, locals := 0 } : Room).cells ({ frames := 0, cells := 0, slots := 0, locals := 0 } : Room).slots (s₁.setTop (entryFrame m #[(.ref bb), (.int 4)] 2))
  refine Goes.enter (g' := (mkF m 0 #[.val (.ref bb), .val (.int 4)] [])) (ef_rmCF_4 m bb ((4 : Int32))) ?_
  refine Goes.step (fun _ k => pw_iloadN X0.here hx (hb hby d7_0) rfl _ (pw_aloadN X0.here hx (hb hby d7_1) rfl rfl _ k)) ?_
  obtain ⟨c1, Ar1, -, Sz1, Nn1, -, -⟩ := id Vb
  have len1 := X0.arraylength hx (by rw [e0]; exact Ar1.1) (State.isArrayOf_alike hZ.alike Ar1.2.1) (g := (mkF m 2 #[.val (.ref bb), .val (.int 4)] [(.ref bb), (.int 4)])) rfl rfl (hb hby d7_2)
  rw [len_of Sz1 Nn1] at len1
  refine Goes.step (B := s₁.setTop (mkF m 3 #[.val (.ref bb), .val (.int 4)] [(.int 4), (.int 4)])) len1 ?_
  refine Goes.step (B := s₁.setTop (mkF m 4 #[.val (.ref bb), .val (.int 4)] [(.int 0)])) (fun _ k => XS.isub X0.here hx rfl (hb hby d7_3) rfl k) ?_
  refine Goes.step (fun _ k => pw_bipush X0.here hx (v := (31 : Int32)) (hb hby d7_4) rfl _ k) ?_
  refine Goes.step (B := s₁.setTop (mkF m 7 #[.val (.ref bb), .val (.int 4)] [(.int 0)])) (fun _ k => XS.iushr X0.here hx rfl (hb hby d7_6) rfl k) ?_
  refine Goes.step (B := s₁.setTop (mkF m 8 #[.val (.ref bb), .val (.int 4)] [(.int 0)])) (fun _ k => XS.i2b X0.here hx rfl (hb hby d7_7) rfl k) ?_
  exact Goes.retN X0 hx e0 (t := .byte) Bd.returns (by simp) hlk (hb hby d7_8) (by decide) (by decide) (⟨rfl, N0, rfl⟩)
theorem ef_rmSJ_4 (m : MethodId) (x0 : Addr) (x1 : Addr) (x2 : Int32) (x3 : Int32) : entryFrame m #[(.ref x0), (.ref x1), (.int x2), (.int x3), .null] 6 = mkF m 0 #[.val (.ref x0), .val (.ref x1), .val (.int x2), .val (.int x3), .val .null, .unset] [] := by first | (simp [entryFrame, mkF, argsToLocals, Value.category]; done) | rfl
def QSJ_4 (Z : State) (a0r : Addr) (ca : Addr) (kc : ClassId) (cs : Int32) (ch0 : Int32) (ch1 : Int32) (ch2 : Int32) (ch3 : Int32) (h0 : Heap) (n0 : Nat) (v : Option Value) (h : Heap) (L : List Loc) : Prop := v = none ∧ Fr n0 L ∧ Keep h0 h [a0r] ∧ Exa Z h a0r "java/lang/String" ∧ ∃ (vb : Addr) (kv : ClassId), Fld Z h a0r "java/lang/String" "value" "[B" (.ref vb) ∧ Fld Z h a0r "java/lang/String" "coder" "B" (.int (0 : Int32)) ∧ Arv Z h vb kv .byte (4 : Int32) [.int (own_b ch0), .int (own_b ch1), .int (own_b ch2), .int (own_b ch3)] (.int (0 : Int32))
set_option maxRecDepth 65536 in
set_option maxHeartbeats 40000000 in
theorem rmSJ_4 (l : Launch) (Z : State) (a0 : Array Value) (hw : ∀ d ∈ tables_1, d.before a0 Z = true) (ws : List Jvm.Cond) (a0r : Addr) (ca : Addr) (kc : ClassId) (cs : Int32) (ch0 : Int32) (ch1 : Int32) (ch2 : Int32) (ch3 : Int32) (h0 : Heap) (n0 : Nat) (O0 : Old Z n0 h0) (Er : Exa Z h0 a0r "java/lang/String") (gr : n0 ≤ a0r) (Fr_value : Fld Z h0 a0r "java/lang/String" "value" "[B" .null) (Fr_coder : Fld Z h0 a0r "java/lang/String" "coder" "B" (.int (0 : Int32))) (Vc : Arv Z h0 ca kc .char (4 : Int32) [.int ch0, .int ch1, .int ch2, .int ch3] (.int (0 : Int32))) (Sc : Sta Z h0 "java/lang/String" "COMPACT_STRINGS" "Z" (.int cs)) (hcs : ¬ cs = (0 : Int32)) (hk0 : own_ok ch0) (hk1 : own_ok ch1) (hk2 : own_ok ch2) (hk3 : own_ok ch3) :
    MetFree l (⟨"java/lang/String", "<init>", "([CIILjava/lang/Void;)V"⟩ : MethodName) (head1 (Jvm.Cond.code (⟨"java/lang/String", "<init>", "([CIILjava/lang/Void;)V"⟩ : MethodName) jdk_42_method_149_code 6 none :: ws) ({ frames := 2, cells := 1, slots := 4, locals := 35 } : Room)) (fun a U => a = #[(.ref a0r), (.ref ca), (.int 0), (.int 4), .null] ∧ Z.Warmed39 U.vm ∧ U.heap = h0) (fun _ _ _ _ _ => True) (fun _ U o U' => ∃ v L, o = .returned v ∧ QSJ_4 Z a0r ca kc cs ch0 ch1 ch2 ch3 h0 n0 v U'.heap L ∧ FrameEnd U o U' L ({ frames := 2, cells := 1, slots := 4, locals := 35 } : Room).cells ({ frames := 2, cells := 1, slots := 4, locals := 35 } : Room).slots) := by
  refine MetFree.of_bodySF (plainFor_of_name pn_String) hisR ?_
  intro p e s m args below meth c s₁ Bd hml0 hP hK
  obtain ⟨rfl, hZ, hh⟩ := hP
  have hx := Bd.exec
  have hby := Bd.bytes
  have hlk : meth.locks = false := BodyLoose.notSynchronized Bd
  have hml : c.maxLocals = 6 := hml0
  have hown : s.vm.findClass "java/lang/String" = some m.cls := findClass_of_methodNamed Bd.named
  have hnm := (name_of_methodNamed Bd.named Bd.method).1
  have X0 : Stand p l e ({ frames := 2, cells := 1, slots := 4, locals := 35 } : Room) s m #[(.ref a0r), (.ref ca), (.int 0), (.int 4), .null] below meth c s₁ [] 0 0 := Stand.of_body Bd
  have e0 : s₁.heap = h0 := by rw [← hh, Bd.state]; rfl
  have N0 := Fr.nil n0
  show Goes p e below s (QSJ_4 Z a0r ca kc cs ch0 ch1 ch2 ch3 h0 n0) ({ frames := 2, cells := 1, slots := 4, locals := 35 } : Room).cells ({ frames := 2, cells := 1, slots := 4, locals := 35 } : Room).slots (s₁.setTop (entryFrame m #[(.ref a0r), (.ref ca), (.int 0), (.int 4), .null] 6))
  refine Goes.enter (g' := (mkF m 0 #[.val (.ref a0r), .val (.ref ca), .val (.int 0), .val (.int 4), .val .null, .unset] [])) (ef_rmSJ_4 m a0r ca ((0 : Int32)) ((4 : Int32))) ?_
  refine Goes.step (fun _ k => pw_aloadN X0.here hx (hb hby d3_0) rfl rfl _ k) ?_
  obtain ⟨T1, X1, e1, st1⟩ := initO X0 hx hZ hown (own_w15 hw) (own_w16 hw) (own_w17 hw) e0 (g := (mkF m 1 #[.val (.ref a0r), .val (.ref ca), .val (.int 0), .val (.int 4), .val .null, .unset] [(.ref a0r)])) rfl (by rw [hml]; rfl) rfl (hb hby d3_1) (by decide) (W := 0) (by show 2 * 0 + _ ≤ _; exact Nat.le_of_eq rfl) (by decide)
  refine Goes.step (B := T1.setTop (mkF m 4 #[.val (.ref a0r), .val (.ref ca), .val (.int 0), .val (.int 4), .val .null, .unset] [])) st1 ?_
  refine Goes.step (fun _ k => pw_iloadN X1.here hx (hb hby d3_4) rfl _ (pw_ifYes X1.here hx (pc' := 27) (hb hby d3_5) ((if0 _ _).trans (feq (by decide)).2) (by decide) (by decide) _ k)) ?_
  obtain ⟨T2, X2, e2, st2⟩ := getS2 X1 hx hZ hown (host := "") (Or.inl (own_w18 hw)) Via.refl e1 Sc (g := (mkF m 27 #[.val (.ref a0r), .val (.ref ca), .val (.int 0), .val (.int 4), .val .null, .unset] [])) rfl (hb hby d3_27)
  refine Goes.step (B := T2.setTop (mkF m 30 #[.val (.ref a0r), .val (.ref ca), .val (.int 0), .val (.int 4), .val .null, .unset] [(.int cs)])) st2 ?_
  refine Goes.step (fun _ k => pw_ifNo X2.here hx (hb hby d3_30) ((if0 _ _).trans (feq hcs).1) _ (pw_aloadN X2.here hx (hb hby d3_33) rfl rfl _ (pw_iloadN X2.here hx (hb hby d3_34) rfl _ (pw_iloadN X2.here hx (hb hby d3_35) rfl _ k)))) ?_
  have lt_a0r_3 := Er.lt
  have lt_ca_3 := Vc.lt
  obtain ⟨_, _, ⟨T3, qL3, qk3, qn3⟩, -, X3, ⟨Lc3, hQ3, ql3, qy3, qz3⟩, st3⟩ := Jvm.LawKit.callS X2 hx (y := (⟨"java/lang/StringUTF16", "compress", "([CII)[B"⟩ : MethodName)) hown (mvT hZ (own_w19 hw)) (mvT hZ (own_w20 hw)) (mvT hZ (own_w21 hw)) (mvT hZ (own_w22 hw)) (by decide) (backOf (W := 0) (rmC3_4 l Z a0 hw [] ca kc ch0 ch1 ch2 ch3 h0 n0 O0 Vc hk0 hk1 hk2 hk3) hZ (own_w22 hw) (own_w21 hw) (by decide) (by decide)) (g := (mkF m 36 #[.val (.ref a0r), .val (.ref ca), .val (.int 0), .val (.int 4), .val .null, .unset] [(.int 4), (.int 0), (.ref ca)])) rfl (by rw [hml]; rfl) (argsL := [(.ref ca), (.int 0), (.int 4)]) (rest := []) (lenOf pd_2 rfl) rfl (by show 2 * 0 + _ ≤ _; exact Nat.le_of_eq rfl) (hb hby d3_36) (fun _ _ => ⟨rfl, e2, (by decide : 0 + 1 ≤ _), (by decide : 0 + 4 ≤ _)⟩)
  dsimp only [Pt.U, Pt.locs, Pt.cells, Pt.slots] at X3 ql3 qy3 qz3 st3 hQ3
  rw [ql3, qy3, qz3] at X3
  obtain ⟨fb3, fk3, rfl, Nq3, Kp3, gb3, sb3, Vb3⟩ := hQ3
  have ne_a0r_fb3 : a0r ≠ fb3 := Nat.ne_of_lt (Nat.lt_of_lt_of_le lt_a0r_3 sb3)
  have ne_ca_fb3 : ca ≠ fb3 := Nat.ne_of_lt (Nat.lt_of_lt_of_le lt_ca_3 sb3)
  have O_3 := O0.keep Kp3 all0
  have K_3 := (Keep.refl h0 [a0r]).trans Kp3 all0
  have N3 := Fr.app N0 Nq3
  refine Goes.step (B := T3.setTop (mkF m 39 #[.val (.ref a0r), .val (.ref ca), .val (.int 0), .val (.int 4), .val .null, .unset] [(.ref fb3)])) st3 ?_
  refine Goes.step (fun _ k => pw_astore X3.here hx (l' := #[.val (.ref a0r), .val (.ref ca), .val (.int 0), .val (.int 4), .val .null, .val (.ref fb3)]) (hb hby d3_39) rfl rfl _ (pw_aloadN X3.here hx (hb hby d3_41) rfl rfl _ (pw_aload X3.here hx (hb hby d3_42) rfl rfl _ (pw_iloadN X3.here hx (hb hby d3_44) rfl _ k)))) ?_
  obtain ⟨_, _, ⟨T4, qL4, qk4, qn4⟩, -, X4, ⟨Lc4, hQ4, ql4, qy4, qz4⟩, st4⟩ := Jvm.LawKit.callS X3 hx (y := (⟨"java/lang/StringUTF16", "coderFromArrayLen", "([BI)B"⟩ : MethodName)) hown (mvT hZ (own_w27 hw)) (mvT hZ (own_w28 hw)) (mvT hZ (own_w21 hw)) (mvT hZ (own_w29 hw)) (by decide) (backOf (W := 1) (rmCF_4 l Z a0 hw [] fb3 fk3 [(.int (own_b ch0)), (.int (own_b ch1)), (.int (own_b ch2)), (.int (own_b ch3))] T3.heap n0 O_3 Vb3) hZ (own_w29 hw) (own_w21 hw) (by decide) (by decide)) (g := (mkF m 45 #[.val (.ref a0r), .val (.ref ca), .val (.int 0), .val (.int 4), .val .null, .val (.ref fb3)] [(.int 4), (.ref fb3), (.ref a0r)])) rfl (by rw [hml]; rfl) (argsL := [(.ref fb3), (.int 4)]) (rest := [(.ref a0r)]) (lenOf pd_3 rfl) rfl (by show 2 * 0 + _ ≤ _; exact Nat.le_of_eq rfl) (hb hby d3_45) (fun _ _ => ⟨rfl, rfl, (by decide : 1 + 0 ≤ _), (by decide : 4 + 0 ≤ _)⟩)
  dsimp only [Pt.U, Pt.locs, Pt.cells, Pt.slots] at X4 ql4 qy4 qz4 st4 hQ4
  rw [ql4, qy4, qz4] at X4
  obtain ⟨rfl, Nq4, eh4⟩ := hQ4
  have N4 := Fr.app N3 Nq4
  refine Goes.step (B := T4.setTop (mkF m 48 #[.val (.ref a0r), .val (.ref ca), .val (.int 0), .val (.int 4), .val .null, .val (.ref fb3)] [(.int 0), (.ref a0r)])) st4 ?_
  have f5 := (Er.keep Kp3)
  have f6 := (Fr_coder.keep Kp3 nin0)
  obtain ⟨T7, h7, X7, e7, W7, st7⟩ := putFN X4 hx hZ hown (own_w30 hw) Via.refl eh4 f6 f5 (Or.inr ⟨(own_w31 hw), rfl, hnm⟩) (own_w6 hw) (ty := .byte) (v' := (.int 0)) (by decide) rfl (by decide) (g := (mkF m 48 #[.val (.ref a0r), .val (.ref ca), .val (.int 0), .val (.int 4), .val .null, .val (.ref fb3)] [(.int 0), (.ref a0r)])) rfl rfl (hb hby d3_48)
  have Fw7 := f6.same W7
  have N7 := Fr.snoc X7 N4 gr
  have O_7 := O_3.wr W7 gr
  have K_7 := K_3.wr W7 (Or.inl (List.mem_of_getElem? (i := 0) rfl))
  refine Goes.step (B := T7.setTop (mkF m 51 #[.val (.ref a0r), .val (.ref ca), .val (.int 0), .val (.int 4), .val .null, .val (.ref fb3)] [])) st7 ?_
  refine Goes.step (fun _ k => pw_aloadN X7.here hx (hb hby d3_51) rfl rfl _ (pw_aload X7.here hx (hb hby d3_52) rfl rfl _ k)) ?_
  have f8 := (f5.wr W7)
  have f9 := ((Fr_value.keep Kp3 nin0).other W7 (Or.inr (slot_ne (Or.inr (own_w33 hw)) (Or.inr (own_w31 hw)) (by decide) (t := (.array .byte)) (t' := .byte) (by decide) (by decide))))
  obtain ⟨T10, h10, X10, e10, W10, st10⟩ := putF X7 hx hZ hown (host := "") (Or.inl (own_w32 hw)) Via.refl e7 f9 f8 (Or.inr ⟨(own_w33 hw), rfl, hnm⟩) (own_w6 hw) (ty := (.array .byte)) (by decide) rfl rfl (g := (mkF m 54 #[.val (.ref a0r), .val (.ref ca), .val (.int 0), .val (.int 4), .val .null, .val (.ref fb3)] [(.ref fb3), (.ref a0r)])) rfl rfl (hb hby d3_54)
  have Fw10 := f9.same W10
  have N10 := Fr.snoc X10 N7 gr
  have O_10 := O_7.wr W10 gr
  have K_10 := K_7.wr W10 (Or.inl (List.mem_of_getElem? (i := 0) rfl))
  refine Goes.step (B := T10.setTop (mkF m 57 #[.val (.ref a0r), .val (.ref ca), .val (.int 0), .val (.int 4), .val .null, .val (.ref fb3)] [])) st10 ?_
  have f11 := (f8.wr W10)
  have f12 := (Fw7.other W10 (Or.inr (slot_ne (Or.inr (own_w31 hw)) (Or.inr (own_w33 hw)) (by decide) (t := .byte) (t' := (.array .byte)) (by decide) (by decide))))
  have f13 := ((Vb3.other W7 (Ne.symm ne_a0r_fb3)).other W10 (Ne.symm ne_a0r_fb3))
  exact Goes.retV X10 hx e10 Bd.returns hlk (hb hby d3_57) (by decide) (by decide) (⟨rfl, N10, K_10, f11, fb3, fk3, Fw10, f12, f13⟩)
theorem ef_rmSI_4 (m : MethodId) (x0 : Addr) (x1 : Addr) : entryFrame m #[(.ref x0), (.ref x1)] 2 = mkF m 0 #[.val (.ref x0), .val (.ref x1)] [] := by first | (simp [entryFrame, mkF, argsToLocals, Value.category]; done) | rfl
def QSI_4 (Z : State) (a0r : Addr) (ca : Addr) (kc : ClassId) (cs : Int32) (ch0 : Int32) (ch1 : Int32) (ch2 : Int32) (ch3 : Int32) (h0 : Heap) (n0 : Nat) (v : Option Value) (h : Heap) (L : List Loc) : Prop := v = none ∧ Fr n0 L ∧ Keep h0 h [a0r] ∧ Exa Z h a0r "java/lang/String" ∧ ∃ (vb : Addr) (kv : ClassId), Fld Z h a0r "java/lang/String" "value" "[B" (.ref vb) ∧ Fld Z h a0r "java/lang/String" "coder" "B" (.int (0 : Int32)) ∧ Arv Z h vb kv .byte (4 : Int32) [.int (own_b ch0), .int (own_b ch1), .int (own_b ch2), .int (own_b ch3)] (.int (0 : Int32))
set_option maxRecDepth 65536 in
set_option maxHeartbeats 40000000 in
theorem rmSI_4 (l : Launch) (Z : State) (a0 : Array Value) (hw : ∀ d ∈ tables_1, d.before a0 Z = true) (ws : List Jvm.Cond) (a0r : Addr) (ca : Addr) (kc : ClassId) (cs : Int32) (ch0 : Int32) (ch1 : Int32) (ch2 : Int32) (ch3 : Int32) (h0 : Heap) (n0 : Nat) (O0 : Old Z n0 h0) (Er : Exa Z h0 a0r "java/lang/String") (gr : n0 ≤ a0r) (Fr_value : Fld Z h0 a0r "java/lang/String" "value" "[B" .null) (Fr_coder : Fld Z h0 a0r "java/lang/String" "coder" "B" (.int (0 : Int32))) (Vc : Arv Z h0 ca kc .char (4 : Int32) [.int ch0, .int ch1, .int ch2, .int ch3] (.int (0 : Int32))) (Sc : Sta Z h0 "java/lang/String" "COMPACT_STRINGS" "Z" (.int cs)) (hcs : ¬ cs = (0 : Int32)) (hk0 : own_ok ch0) (hk1 : own_ok ch1) (hk2 : own_ok ch2) (hk3 : own_ok ch3) :
    MetFree l (⟨"java/lang/String", "<init>", "([C)V"⟩ : MethodName) (head1 (Jvm.Cond.code (⟨"java/lang/String", "<init>", "([C)V"⟩ : MethodName) jdk_42_method_3_code 2 none :: ws) ({ frames := 3, cells := 1, slots := 4, locals := 52 } : Room)) (fun a U => a = #[(.ref a0r), (.ref ca)] ∧ Z.Warmed39 U.vm ∧ U.heap = h0) (fun _ _ _ _ _ => True) (fun _ U o U' => ∃ v L, o = .returned v ∧ QSI_4 Z a0r ca kc cs ch0 ch1 ch2 ch3 h0 n0 v U'.heap L ∧ FrameEnd U o U' L ({ frames := 3, cells := 1, slots := 4, locals := 52 } : Room).cells ({ frames := 3, cells := 1, slots := 4, locals := 52 } : Room).slots) := by
  refine MetFree.of_bodySF (plainFor_of_name pn_String) hisR ?_
  intro p e s m args below meth c s₁ Bd hml0 hP hK
  obtain ⟨rfl, hZ, hh⟩ := hP
  have hx := Bd.exec
  have hby := Bd.bytes
  have hlk : meth.locks = false := BodyLoose.notSynchronized Bd
  have hml : c.maxLocals = 2 := hml0
  have hown : s.vm.findClass "java/lang/String" = some m.cls := findClass_of_methodNamed Bd.named
  have hnm := (name_of_methodNamed Bd.named Bd.method).1
  have X0 : Stand p l e ({ frames := 3, cells := 1, slots := 4, locals := 52 } : Room) s m #[(.ref a0r), (.ref ca)] below meth c s₁ [] 0 0 := Stand.of_body Bd
  have e0 : s₁.heap = h0 := by rw [← hh, Bd.state]; rfl
  have N0 := Fr.nil n0
  show Goes p e below s (QSI_4 Z a0r ca kc cs ch0 ch1 ch2 ch3 h0 n0) ({ frames := 3, cells := 1, slots := 4, locals := 52 } : Room).cells ({ frames := 3, cells := 1, slots := 4, locals := 52 } : Room).slots (s₁.setTop (entryFrame m #[(.ref a0r), (.ref ca)] 2))
  refine Goes.enter (g' := (mkF m 0 #[.val (.ref a0r), .val (.ref ca)] [])) (ef_rmSI_4 m a0r ca) ?_
  refine Goes.step (fun _ k => pw_aloadN X0.here hx (hb hby d2_0) rfl rfl _ (pw_aloadN X0.here hx (hb hby d2_1) rfl rfl _ (pw_iconst X0.here hx (v := (0 : Int32)) (hb hby d2_2) rfl _ (pw_aloadN X0.here hx (hb hby d2_3) rfl rfl _ k)))) ?_
  obtain ⟨c1, Ar1, -, Sz1, Nn1, -, -⟩ := id Vc
  have len1 := X0.arraylength hx (by rw [e0]; exact Ar1.1) (State.isArrayOf_alike hZ.alike Ar1.2.1) (g := (mkF m 4 #[.val (.ref a0r), .val (.ref ca)] [(.ref ca), (.int 0), (.ref ca), (.ref a0r)])) rfl rfl (hb hby d2_4)
  rw [len_of Sz1 Nn1] at len1
  refine Goes.step (B := s₁.setTop (mkF m 5 #[.val (.ref a0r), .val (.ref ca)] [(.int 4), (.int 0), (.ref ca), (.ref a0r)])) len1 ?_
  refine Goes.step (fun _ k => pw_aconstNull X0.here hx (hb hby d2_5) _ k) ?_
  obtain ⟨_, _, ⟨T2, qL2, qk2, qn2⟩, -, X2, ⟨Lc2, hQ2, ql2, qy2, qz2⟩, st2⟩ := X0.specialBack hx (y := (⟨"java/lang/String", "<init>", "([CIILjava/lang/Void;)V"⟩ : MethodName)) rfl hown (mvT hZ (own_w11 hw)) (mvT hZ (own_w12 hw)) (mvT hZ (own_w14 hw)) (by decide) (backOf (W := 0) (rmSJ_4 l Z a0 hw [] a0r ca kc cs ch0 ch1 ch2 ch3 h0 n0 O0 Er gr Fr_value Fr_coder Vc Sc hcs hk0 hk1 hk2 hk3) hZ (own_w14 hw) (own_w7 hw) (by decide) (by decide)) (g := (mkF m 6 #[.val (.ref a0r), .val (.ref ca)] [.null, (.int 4), (.int 0), (.ref ca), (.ref a0r)])) rfl (by rw [hml]; rfl) (Steps.refl _) (a := a0r) (argsL := [(.ref ca), (.int 0), (.int 4), .null]) (rest := []) (lenOf pd_0 rfl) rfl (by show 2 * 0 + _ ≤ _; exact Nat.le_of_eq rfl) (hb hby d2_6) (fun _ _ => ⟨rfl, e0, (by decide : 0 + 1 ≤ _), (by decide : 0 + 4 ≤ _)⟩)
  dsimp only [Pt.U, Pt.locs, Pt.cells, Pt.slots] at X2 ql2 qy2 qz2 st2 hQ2
  rw [ql2, qy2, qz2] at X2
  obtain ⟨rfl, Nq2, Kp2, Ex2, sv2, sk2, Fsv2, Fsc2, Vsv2⟩ := hQ2
  have O_2 := O0.keep Kp2 (allS gr all0)
  have K_2 := (Keep.refl h0 [a0r]).trans Kp2 (allS (P := fun x => x ∈ _ ∨ _) (Or.inl (List.mem_of_getElem? (i := 0) rfl)) all0)
  have N2 := Fr.app N0 Nq2
  refine Goes.via (B := T2.setTop (mkF m 9 #[.val (.ref a0r), .val (.ref ca)] [])) st2 ?_
  exact Goes.retV X2 hx rfl Bd.returns hlk (hb hby d2_9) (by decide) (by decide) (⟨rfl, N2, K_2, Ex2, sv2, sk2, Fsv2, Fsc2, Vsv2⟩)
theorem ef_rmC5_5 (m : MethodId) (x0 : Addr) (x1 : Int32) (x2 : Addr) (x3 : Int32) (x4 : Int32) : entryFrame m #[(.ref x0), (.int x1), (.ref x2), (.int x3), (.int x4)] 7 = mkF m 0 #[.val (.ref x0), .val (.int x1), .val (.ref x2), .val (.int x3), .val (.int x4), .unset, .unset] [] := by first | (simp [entryFrame, mkF, argsToLocals, Value.category]; done) | rfl
def QC5_5 (Z : State) (ca : Addr) (kc : ClassId) (bb : Addr) (kb : ClassId) (ch0 : Int32) (ch1 : Int32) (ch2 : Int32) (ch3 : Int32) (ch4 : Int32) (h0 : Heap) (n0 : Nat) (v : Option Value) (h : Heap) (L : List Loc) : Prop := v = some (.int (5 : Int32)) ∧ Fr n0 L ∧ Keep h0 h [bb] ∧ Arv Z h bb kb .byte (5 : Int32) [.int (own_b ch0), .int (own_b ch1), .int (own_b ch2), .int (own_b ch3), .int (own_b ch4)] (.int (0 : Int32))
set_option maxRecDepth 65536 in
set_option maxHeartbeats 40000000 in
theorem rmC5_5 (l : Launch) (Z : State) (a0 : Array Value) (hw : ∀ d ∈ tables_1, d.before a0 Z = true) (ws : List Jvm.Cond) (ca : Addr) (kc : ClassId) (bb : Addr) (kb : ClassId) (ch0 : Int32) (ch1 : Int32) (ch2 : Int32) (ch3 : Int32) (ch4 : Int32) (h0 : Heap) (n0 : Nat) (O0 : Old Z n0 h0) (Vc : Arv Z h0 ca kc .char (5 : Int32) [.int ch0, .int ch1, .int ch2, .int ch3, .int ch4] (.int (0 : Int32))) (Vb : Arv Z h0 bb kb .byte (5 : Int32) [.int (0 : Int32), .int (0 : Int32), .int (0 : Int32), .int (0 : Int32), .int (0 : Int32)] (.int (0 : Int32))) (gb : n0 ≤ bb) (ncb : ca ≠ bb) (hk0 : own_ok ch0) (hk1 : own_ok ch1) (hk2 : own_ok ch2) (hk3 : own_ok ch3) (hk4 : own_ok ch4) :
    MetFree l (⟨"java/lang/StringUTF16", "compress", "([CI[BII)I"⟩ : MethodName) (head1 (Jvm.Cond.code (⟨"java/lang/StringUTF16", "compress", "([CI[BII)I"⟩ : MethodName) jdk_52_method_21_code 7 (some .int) :: ws) ({ frames := 0, cells := 0, slots := 0, locals := 0 } : Room)) (fun a U => a = #[(.ref ca), (.int 0), (.ref bb), (.int 0), (.int 5)] ∧ Z.Warmed39 U.vm ∧ U.heap = h0) (fun _ _ _ _ _ => True) (fun _ U o U' => ∃ v L, o = .returned v ∧ QC5_5 Z ca kc bb kb ch0 ch1 ch2 ch3 ch4 h0 n0 v U'.heap L ∧ FrameEnd U o U' L ({ frames := 0, cells := 0, slots := 0, locals := 0 } : Room).cells ({ frames := 0, cells := 0, slots := 0, locals := 0 } : Room).slots) := by
  refine MetFree.of_bodySF (plainFor_of_name pn_StringUTF16) hisR ?_
  intro p e s m args below meth c s₁ Bd hml0 hP hK
  obtain ⟨rfl, hZ, hh⟩ := hP
  have hx := Bd.exec
  have hby := Bd.bytes
  have hlk : meth.locks = false := BodyLoose.notSynchronized Bd
  have hml : c.maxLocals = 7 := hml0
  have hown : s.vm.findClass "java/lang/StringUTF16" = some m.cls := findClass_of_methodNamed Bd.named
  have hnm := (name_of_methodNamed Bd.named Bd.method).1
  have X0 : Stand p l e ({ frames := 0, cells := 0, slots := 0, locals := 0 } : Room) s m #[(.ref ca), (.int 0), (.ref bb), (.int 0), (.int 5)] below meth c s₁ [] 0 0 := Stand.of_body Bd
  have e0 : s₁.heap = h0 := by rw [← hh, Bd.state]; rfl
  have N0 := Fr.nil n0
  show Goes p e below s (QC5_5 Z ca kc bb kb ch0 ch1 ch2 ch3 ch4 h0 n0) ({ frames := 0, cells := 0, slots := 0, locals := 0 } : Room).cells ({ frames := 0, cells := 0, slots := 0, locals := 0 } : Room).slots (s₁.setTop (entryFrame m #[(.ref ca), (.int 0), (.ref bb), (.int 0), (.int 5)] 7))
  refine Goes.enter (g' := (mkF m 0 #[.val (.ref ca), .val (.int 0), .val (.ref bb), .val (.int 0), .val (.int 5), .unset, .unset] [])) (ef_rmC5_5 m ca ((0 : Int32)) bb ((0 : Int32)) ((5 : Int32))) ?_
  refine Goes.step (fun _ k => pw_iconst X0.here hx (v := (0 : Int32)) (hb hby d6_0) rfl _ (pw_istore X0.here hx (l' := #[.val (.ref ca), .val (.int 0), .val (.ref bb), .val (.int 0), .val (.int 5), .val (.int 0), .unset]) (hb hby d6_1) rfl _ (pw_iload X0.here hx (hb hby d6_3) rfl _ (pw_iload X0.here hx (hb hby d6_5) rfl _ (pw_icmpNo X0.here hx (hb hby d6_7) (tlt (by decide)).2.1 _ (pw_aloadN X0.here hx (hb hby d6_10) rfl rfl _ k)))))) ?_
  refine Goes.step (fun _ k => pw_iloadN X0.here hx (hb hby d6_11) rfl _ k) ?_
  obtain ⟨c1, Ar1, -, Sz1, Nn1, Hs1, -⟩ := id Vc
  have hin1 : ¬ ((0 : Int32) < 0 ∨ c1.slots.size ≤ ((0 : Int32)).toNatClampNeg) := inb_of Sz1 ⟨by decide, by decide⟩
  refine Goes.step (B := s₁.setTop (mkF m 13 #[.val (.ref ca), .val (.int 0), .val (.ref bb), .val (.int 0), .val (.int 5), .val (.int 0), .unset] [(.int ch0)])) (X0.caload hx (j := (0 : Int32)) (v := (.int ch0)) (by rw [e0]; exact Ar1.1) (State.isArrayOf_alike hZ.alike Ar1.2.1) Ar1.2.2 hin1 (Has.at Hs1 hin1 rfl) (g := (mkF m 12 #[.val (.ref ca), .val (.int 0), .val (.ref bb), .val (.int 0), .val (.int 5), .val (.int 0), .unset] [(.int 0), (.ref ca)])) rfl rfl (hb hby d6_12)) ?_
  refine Goes.step (fun _ k => pw_istore X0.here hx (l' := #[.val (.ref ca), .val (.int 0), .val (.ref bb), .val (.int 0), .val (.int 5), .val (.int 0), .val (.int ch0)]) (hb hby d6_13) rfl _ (pw_iload X0.here hx (hb hby d6_15) rfl _ (pw_sipush X0.here hx (v := (255 : Int32)) (hb hby d6_17) rfl _ (pw_icmpYes X0.here hx (pc' := 26) (hb hby d6_20) (flt (own_le hk0)).2.2.2 (by decide) (by decide) _ (pw_aloadN X0.here hx (hb hby d6_26) rfl rfl _ (pw_iloadN X0.here hx (hb hby d6_27) rfl _ k)))))) ?_
  refine Goes.step (fun _ k => pw_iload X0.here hx (hb hby d6_28) rfl _ k) ?_
  refine Goes.step (B := s₁.setTop (mkF m 31 #[.val (.ref ca), .val (.int 0), .val (.ref bb), .val (.int 0), .val (.int 5), .val (.int 0), .val (.int ch0)] [(.int (ch0.toInt8.toInt32)), (.int 0), (.ref bb)])) (fun _ k => XS.i2b X0.here hx rfl (hb hby d6_30) rfl k) ?_
  obtain ⟨c2, Ar2, q2, Sz2, Nn2, Hs2, Gs2⟩ := id Vb
  have hin2 : ¬ ((0 : Int32) < 0 ∨ c2.slots.size ≤ ((0 : Int32)).toNatClampNeg) := inb_of Sz2 ⟨by decide, by decide⟩
  obtain ⟨T2, h2, X2, e2, W2, st2⟩ := stB X0 hx hZ e0 Ar2 (j := (0 : Int32)) hin2 (g := (mkF m 31 #[.val (.ref ca), .val (.int 0), .val (.ref bb), .val (.int 0), .val (.int 5), .val (.int 0), .val (.int ch0)] [(.int (ch0.toInt8.toInt32)), (.int 0), (.ref bb)])) rfl rfl (hb hby d6_31)
  have V2 : Arv Z h2 bb kb .byte (5 : Int32) [(.int (nar .byte (ch0.toInt8.toInt32))), (.int 0), (.int 0), (.int 0), (.int 0)] (.int 0) := Arv.set Ar2 q2 Sz2 Nn2 Hs2 Gs2 (fits_nar_byte _) W2 0 rfl (Nat.le_of_ble_eq_true rfl)
  have N2 := Fr.snoc X2 N0 gb
  have O_2 := O0.wr W2 gb
  have K_2 := (Keep.refl h0 [bb]).wr W2 (Or.inl (List.mem_of_getElem? (i := 0) rfl))
  refine Goes.step (B := T2.setTop (mkF m 32 #[.val (.ref ca), .val (.int 0), .val (.ref bb), .val (.int 0), .val (.int 5), .val (.int 0), .val (.int ch0)] [])) st2 ?_
  refine Goes.step (fun _ k => pw_iinc X2.here hx (l' := #[.val (.ref ca), .val (.int 1), .val (.ref bb), .val (.int 0), .val (.int 5), .val (.int 0), .val (.int ch0)]) (hb hby d6_32) rfl rfl _ (pw_iinc X2.here hx (l' := #[.val (.ref ca), .val (.int 1), .val (.ref bb), .val (.int 1), .val (.int 5), .val (.int 0), .val (.int ch0)]) (hb hby d6_35) rfl rfl _ (pw_iinc X2.here hx (l' := #[.val (.ref ca), .val (.int 1), .val (.ref bb), .val (.int 1), .val (.int 5), .val (.int 1), .val (.int ch0)]) (hb hby d6_38) rfl rfl _ (pw_goto X2.here hx (pc' := 3) (hb hby d6_41) (by decide) (by decide) _ (pw_iload X2.here hx (hb hby d6_3) rfl _ (pw_iload X2.here hx (hb hby d6_5) rfl _ k)))))) ?_
  refine Goes.step (fun _ k => pw_icmpNo X2.here hx (hb hby d6_7) (tlt (by decide)).2.1 _ (pw_aloadN X2.here hx (hb hby d6_10) rfl rfl _ (pw_iloadN X2.here hx (hb hby d6_11) rfl _ k))) ?_
  have f3 := (Vc.other W2 ncb)
  obtain ⟨c4, Ar4, -, Sz4, Nn4, Hs4, -⟩ := id f3
  have hin4 : ¬ ((1 : Int32) < 0 ∨ c4.slots.size ≤ ((1 : Int32)).toNatClampNeg) := inb_of Sz4 ⟨by decide, by decide⟩
  refine Goes.step (B := T2.setTop (mkF m 13 #[.val (.ref ca), .val (.int 1), .val (.ref bb), .val (.int 1), .val (.int 5), .val (.int 1), .val (.int ch0)] [(.int ch1)])) (X2.caload hx (j := (1 : Int32)) (v := (.int ch1)) (by rw [e2]; exact Ar4.1) (State.isArrayOf_alike hZ.alike Ar4.2.1) Ar4.2.2 hin4 (Has.at Hs4 hin4 rfl) (g := (mkF m 12 #[.val (.ref ca), .val (.int 1), .val (.ref bb), .val (.int 1), .val (.int 5), .val (.int 1), .val (.int ch0)] [(.int 1), (.ref ca)])) rfl rfl (hb hby d6_12)) ?_
  refine Goes.step (fun _ k => pw_istore X2.here hx (l' := #[.val (.ref ca), .val (.int 1), .val (.ref bb), .val (.int 1), .val (.int 5), .val (.int 1), .val (.int ch1)]) (hb hby d6_13) rfl _ (pw_iload X2.here hx (hb hby d6_15) rfl _ (pw_sipush X2.here hx (v := (255 : Int32)) (hb hby d6_17) rfl _ (pw_icmpYes X2.here hx (pc' := 26) (hb hby d6_20) (flt (own_le hk1)).2.2.2 (by decide) (by decide) _ (pw_aloadN X2.here hx (hb hby d6_26) rfl rfl _ (pw_iloadN X2.here hx (hb hby d6_27) rfl _ k)))))) ?_
  refine Goes.step (fun _ k => pw_iload X2.here hx (hb hby d6_28) rfl _ k) ?_
  refine Goes.step (B := T2.setTop (mkF m 31 #[.val (.ref ca), .val (.int 1), .val (.ref bb), .val (.int 1), .val (.int 5), .val (.int 1), .val (.int ch1)] [(.int (ch1.toInt8.toInt32)), (.int 1), (.ref bb)])) (fun _ k => XS.i2b X2.here hx rfl (hb hby d6_30) rfl k) ?_
  obtain ⟨c5, Ar5, q5, Sz5, Nn5, Hs5, Gs5⟩ := id V2
  have hin5 : ¬ ((1 : Int32) < 0 ∨ c5.slots.size ≤ ((1 : Int32)).toNatClampNeg) := inb_of Sz5 ⟨by decide, by decide⟩
  obtain ⟨T5, h5, X5, e5, W5, st5⟩ := stB X2 hx hZ e2 Ar5 (j := (1 : Int32)) hin5 (g := (mkF m 31 #[.val (.ref ca), .val (.int 1), .val (.ref bb), .val (.int 1), .val (.int 5), .val (.int 1), .val (.int ch1)] [(.int (ch1.toInt8.toInt32)), (.int 1), (.ref bb)])) rfl rfl (hb hby d6_31)
  have V5 : Arv Z h5 bb kb .byte (5 : Int32) [(.int (nar .byte (ch0.toInt8.toInt32))), (.int (nar .byte (ch1.toInt8.toInt32))), (.int 0), (.int 0), (.int 0)] (.int 0) := Arv.set Ar5 q5 Sz5 Nn5 Hs5 Gs5 (fits_nar_byte _) W5 1 rfl (Nat.le_of_ble_eq_true rfl)
  have N5 := Fr.snoc X5 N2 gb
  have O_5 := O_2.wr W5 gb
  have K_5 := K_2.wr W5 (Or.inl (List.mem_of_getElem? (i := 0) rfl))
  refine Goes.step (B := T5.setTop (mkF m 32 #[.val (.ref ca), .val (.int 1), .val (.ref bb), .val (.int 1), .val (.int 5), .val (.int 1), .val (.int ch1)] [])) st5 ?_
  refine Goes.step (fun _ k => pw_iinc X5.here hx (l' := #[.val (.ref ca), .val (.int 2), .val (.ref bb), .val (.int 1), .val (.int 5), .val (.int 1), .val (.int ch1)]) (hb hby d6_32) rfl rfl _ (pw_iinc X5.here hx (l' := #[.val (.ref ca), .val (.int 2), .val (.ref bb), .val (.int 2), .val (.int 5), .val (.int 1), .val (.int ch1)]) (hb hby d6_35) rfl rfl _ (pw_iinc X5.here hx (l' := #[.val (.ref ca), .val (.int 2), .val (.ref bb), .val (.int 2), .val (.int 5), .val (.int 2), .val (.int ch1)]) (hb hby d6_38) rfl rfl _ (pw_goto X5.here hx (pc' := 3) (hb hby d6_41) (by decide) (by decide) _ (pw_iload X5.here hx (hb hby d6_3) rfl _ (pw_iload X5.here hx (hb hby d6_5) rfl _ k)))))) ?_
  refine Goes.step (fun _ k => pw_icmpNo X5.here hx (hb hby d6_7) (tlt (by decide)).2.1 _ (pw_aloadN X5.here hx (hb hby d6_10) rfl rfl _ (pw_iloadN X5.here hx (hb hby d6_11) rfl _ k))) ?_
  have f6 := (f3.other W5 ncb)
  obtain ⟨c7, Ar7, -, Sz7, Nn7, Hs7, -⟩ := id f6
  have hin7 : ¬ ((2 : Int32) < 0 ∨ c7.slots.size ≤ ((2 : Int32)).toNatClampNeg) := inb_of Sz7 ⟨by decide, by decide⟩
  refine Goes.step (B := T5.setTop (mkF m 13 #[.val (.ref ca), .val (.int 2), .val (.ref bb), .val (.int 2), .val (.int 5), .val (.int 2), .val (.int ch1)] [(.int ch2)])) (X5.caload hx (j := (2 : Int32)) (v := (.int ch2)) (by rw [e5]; exact Ar7.1) (State.isArrayOf_alike hZ.alike Ar7.2.1) Ar7.2.2 hin7 (Has.at Hs7 hin7 rfl) (g := (mkF m 12 #[.val (.ref ca), .val (.int 2), .val (.ref bb), .val (.int 2), .val (.int 5), .val (.int 2), .val (.int ch1)] [(.int 2), (.ref ca)])) rfl rfl (hb hby d6_12)) ?_
  refine Goes.step (fun _ k => pw_istore X5.here hx (l' := #[.val (.ref ca), .val (.int 2), .val (.ref bb), .val (.int 2), .val (.int 5), .val (.int 2), .val (.int ch2)]) (hb hby d6_13) rfl _ (pw_iload X5.here hx (hb hby d6_15) rfl _ (pw_sipush X5.here hx (v := (255 : Int32)) (hb hby d6_17) rfl _ (pw_icmpYes X5.here hx (pc' := 26) (hb hby d6_20) (flt (own_le hk2)).2.2.2 (by decide) (by decide) _ (pw_aloadN X5.here hx (hb hby d6_26) rfl rfl _ (pw_iloadN X5.here hx (hb hby d6_27) rfl _ k)))))) ?_
  refine Goes.step (fun _ k => pw_iload X5.here hx (hb hby d6_28) rfl _ k) ?_
  refine Goes.step (B := T5.setTop (mkF m 31 #[.val (.ref ca), .val (.int 2), .val (.ref bb), .val (.int 2), .val (.int 5), .val (.int 2), .val (.int ch2)] [(.int (ch2.toInt8.toInt32)), (.int 2), (.ref bb)])) (fun _ k => XS.i2b X5.here hx rfl (hb hby d6_30) rfl k) ?_
  obtain ⟨c8, Ar8, q8, Sz8, Nn8, Hs8, Gs8⟩ := id V5
  have hin8 : ¬ ((2 : Int32) < 0 ∨ c8.slots.size ≤ ((2 : Int32)).toNatClampNeg) := inb_of Sz8 ⟨by decide, by decide⟩
  obtain ⟨T8, h8, X8, e8, W8, st8⟩ := stB X5 hx hZ e5 Ar8 (j := (2 : Int32)) hin8 (g := (mkF m 31 #[.val (.ref ca), .val (.int 2), .val (.ref bb), .val (.int 2), .val (.int 5), .val (.int 2), .val (.int ch2)] [(.int (ch2.toInt8.toInt32)), (.int 2), (.ref bb)])) rfl rfl (hb hby d6_31)
  have V8 : Arv Z h8 bb kb .byte (5 : Int32) [(.int (nar .byte (ch0.toInt8.toInt32))), (.int (nar .byte (ch1.toInt8.toInt32))), (.int (nar .byte (ch2.toInt8.toInt32))), (.int 0), (.int 0)] (.int 0) := Arv.set Ar8 q8 Sz8 Nn8 Hs8 Gs8 (fits_nar_byte _) W8 2 rfl (Nat.le_of_ble_eq_true rfl)
  have N8 := Fr.snoc X8 N5 gb
  have O_8 := O_5.wr W8 gb
  have K_8 := K_5.wr W8 (Or.inl (List.mem_of_getElem? (i := 0) rfl))
  refine Goes.step (B := T8.setTop (mkF m 32 #[.val (.ref ca), .val (.int 2), .val (.ref bb), .val (.int 2), .val (.int 5), .val (.int 2), .val (.int ch2)] [])) st8 ?_
  refine Goes.step (fun _ k => pw_iinc X8.here hx (l' := #[.val (.ref ca), .val (.int 3), .val (.ref bb), .val (.int 2), .val (.int 5), .val (.int 2), .val (.int ch2)]) (hb hby d6_32) rfl rfl _ (pw_iinc X8.here hx (l' := #[.val (.ref ca), .val (.int 3), .val (.ref bb), .val (.int 3), .val (.int 5), .val (.int 2), .val (.int ch2)]) (hb hby d6_35) rfl rfl _ (pw_iinc X8.here hx (l' := #[.val (.ref ca), .val (.int 3), .val (.ref bb), .val (.int 3), .val (.int 5), .val (.int 3), .val (.int ch2)]) (hb hby d6_38) rfl rfl _ (pw_goto X8.here hx (pc' := 3) (hb hby d6_41) (by decide) (by decide) _ (pw_iload X8.here hx (hb hby d6_3) rfl _ (pw_iload X8.here hx (hb hby d6_5) rfl _ k)))))) ?_
  refine Goes.step (fun _ k => pw_icmpNo X8.here hx (hb hby d6_7) (tlt (by decide)).2.1 _ (pw_aloadN X8.here hx (hb hby d6_10) rfl rfl _ (pw_iloadN X8.here hx (hb hby d6_11) rfl _ k))) ?_
  have f9 := (f6.other W8 ncb)
  obtain ⟨c10, Ar10, -, Sz10, Nn10, Hs10, -⟩ := id f9
  have hin10 : ¬ ((3 : Int32) < 0 ∨ c10.slots.size ≤ ((3 : Int32)).toNatClampNeg) := inb_of Sz10 ⟨by decide, by decide⟩
  refine Goes.step (B := T8.setTop (mkF m 13 #[.val (.ref ca), .val (.int 3), .val (.ref bb), .val (.int 3), .val (.int 5), .val (.int 3), .val (.int ch2)] [(.int ch3)])) (X8.caload hx (j := (3 : Int32)) (v := (.int ch3)) (by rw [e8]; exact Ar10.1) (State.isArrayOf_alike hZ.alike Ar10.2.1) Ar10.2.2 hin10 (Has.at Hs10 hin10 rfl) (g := (mkF m 12 #[.val (.ref ca), .val (.int 3), .val (.ref bb), .val (.int 3), .val (.int 5), .val (.int 3), .val (.int ch2)] [(.int 3), (.ref ca)])) rfl rfl (hb hby d6_12)) ?_
  refine Goes.step (fun _ k => pw_istore X8.here hx (l' := #[.val (.ref ca), .val (.int 3), .val (.ref bb), .val (.int 3), .val (.int 5), .val (.int 3), .val (.int ch3)]) (hb hby d6_13) rfl _ (pw_iload X8.here hx (hb hby d6_15) rfl _ (pw_sipush X8.here hx (v := (255 : Int32)) (hb hby d6_17) rfl _ (pw_icmpYes X8.here hx (pc' := 26) (hb hby d6_20) (flt (own_le hk3)).2.2.2 (by decide) (by decide) _ (pw_aloadN X8.here hx (hb hby d6_26) rfl rfl _ (pw_iloadN X8.here hx (hb hby d6_27) rfl _ k)))))) ?_
  refine Goes.step (fun _ k => pw_iload X8.here hx (hb hby d6_28) rfl _ k) ?_
  refine Goes.step (B := T8.setTop (mkF m 31 #[.val (.ref ca), .val (.int 3), .val (.ref bb), .val (.int 3), .val (.int 5), .val (.int 3), .val (.int ch3)] [(.int (ch3.toInt8.toInt32)), (.int 3), (.ref bb)])) (fun _ k => XS.i2b X8.here hx rfl (hb hby d6_30) rfl k) ?_
  obtain ⟨c11, Ar11, q11, Sz11, Nn11, Hs11, Gs11⟩ := id V8
  have hin11 : ¬ ((3 : Int32) < 0 ∨ c11.slots.size ≤ ((3 : Int32)).toNatClampNeg) := inb_of Sz11 ⟨by decide, by decide⟩
  obtain ⟨T11, h11, X11, e11, W11, st11⟩ := stB X8 hx hZ e8 Ar11 (j := (3 : Int32)) hin11 (g := (mkF m 31 #[.val (.ref ca), .val (.int 3), .val (.ref bb), .val (.int 3), .val (.int 5), .val (.int 3), .val (.int ch3)] [(.int (ch3.toInt8.toInt32)), (.int 3), (.ref bb)])) rfl rfl (hb hby d6_31)
  have V11 : Arv Z h11 bb kb .byte (5 : Int32) [(.int (nar .byte (ch0.toInt8.toInt32))), (.int (nar .byte (ch1.toInt8.toInt32))), (.int (nar .byte (ch2.toInt8.toInt32))), (.int (nar .byte (ch3.toInt8.toInt32))), (.int 0)] (.int 0) := Arv.set Ar11 q11 Sz11 Nn11 Hs11 Gs11 (fits_nar_byte _) W11 3 rfl (Nat.le_of_ble_eq_true rfl)
  have N11 := Fr.snoc X11 N8 gb
  have O_11 := O_8.wr W11 gb
  have K_11 := K_8.wr W11 (Or.inl (List.mem_of_getElem? (i := 0) rfl))
  refine Goes.step (B := T11.setTop (mkF m 32 #[.val (.ref ca), .val (.int 3), .val (.ref bb), .val (.int 3), .val (.int 5), .val (.int 3), .val (.int ch3)] [])) st11 ?_
  refine Goes.step (fun _ k => pw_iinc X11.here hx (l' := #[.val (.ref ca), .val (.int 4), .val (.ref bb), .val (.int 3), .val (.int 5), .val (.int 3), .val (.int ch3)]) (hb hby d6_32) rfl rfl _ (pw_iinc X11.here hx (l' := #[.val (.ref ca), .val (.int 4), .val (.ref bb), .val (.int 4), .val (.int 5), .val (.int 3), .val (.int ch3)]) (hb hby d6_35) rfl rfl _ (pw_iinc X11.here hx (l' := #[.val (.ref ca), .val (.int 4), .val (.ref bb), .val (.int 4), .val (.int 5), .val (.int 4), .val (.int ch3)]) (hb hby d6_38) rfl rfl _ (pw_goto X11.here hx (pc' := 3) (hb hby d6_41) (by decide) (by decide) _ (pw_iload X11.here hx (hb hby d6_3) rfl _ (pw_iload X11.here hx (hb hby d6_5) rfl _ k)))))) ?_
  refine Goes.step (fun _ k => pw_icmpNo X11.here hx (hb hby d6_7) (tlt (by decide)).2.1 _ (pw_aloadN X11.here hx (hb hby d6_10) rfl rfl _ (pw_iloadN X11.here hx (hb hby d6_11) rfl _ k))) ?_
  have f12 := (f9.other W11 ncb)
  obtain ⟨c13, Ar13, -, Sz13, Nn13, Hs13, -⟩ := id f12
  have hin13 : ¬ ((4 : Int32) < 0 ∨ c13.slots.size ≤ ((4 : Int32)).toNatClampNeg) := inb_of Sz13 ⟨by decide, by decide⟩
  refine Goes.step (B := T11.setTop (mkF m 13 #[.val (.ref ca), .val (.int 4), .val (.ref bb), .val (.int 4), .val (.int 5), .val (.int 4), .val (.int ch3)] [(.int ch4)])) (X11.caload hx (j := (4 : Int32)) (v := (.int ch4)) (by rw [e11]; exact Ar13.1) (State.isArrayOf_alike hZ.alike Ar13.2.1) Ar13.2.2 hin13 (Has.at Hs13 hin13 rfl) (g := (mkF m 12 #[.val (.ref ca), .val (.int 4), .val (.ref bb), .val (.int 4), .val (.int 5), .val (.int 4), .val (.int ch3)] [(.int 4), (.ref ca)])) rfl rfl (hb hby d6_12)) ?_
  refine Goes.step (fun _ k => pw_istore X11.here hx (l' := #[.val (.ref ca), .val (.int 4), .val (.ref bb), .val (.int 4), .val (.int 5), .val (.int 4), .val (.int ch4)]) (hb hby d6_13) rfl _ (pw_iload X11.here hx (hb hby d6_15) rfl _ (pw_sipush X11.here hx (v := (255 : Int32)) (hb hby d6_17) rfl _ (pw_icmpYes X11.here hx (pc' := 26) (hb hby d6_20) (flt (own_le hk4)).2.2.2 (by decide) (by decide) _ (pw_aloadN X11.here hx (hb hby d6_26) rfl rfl _ (pw_iloadN X11.here hx (hb hby d6_27) rfl _ k)))))) ?_
  refine Goes.step (fun _ k => pw_iload X11.here hx (hb hby d6_28) rfl _ k) ?_
  refine Goes.step (B := T11.setTop (mkF m 31 #[.val (.ref ca), .val (.int 4), .val (.ref bb), .val (.int 4), .val (.int 5), .val (.int 4), .val (.int ch4)] [(.int (ch4.toInt8.toInt32)), (.int 4), (.ref bb)])) (fun _ k => XS.i2b X11.here hx rfl (hb hby d6_30) rfl k) ?_
  obtain ⟨c14, Ar14, q14, Sz14, Nn14, Hs14, Gs14⟩ := id V11
  have hin14 : ¬ ((4 : Int32) < 0 ∨ c14.slots.size ≤ ((4 : Int32)).toNatClampNeg) := inb_of Sz14 ⟨by decide, by decide⟩
  obtain ⟨T14, h14, X14, e14, W14, st14⟩ := stB X11 hx hZ e11 Ar14 (j := (4 : Int32)) hin14 (g := (mkF m 31 #[.val (.ref ca), .val (.int 4), .val (.ref bb), .val (.int 4), .val (.int 5), .val (.int 4), .val (.int ch4)] [(.int (ch4.toInt8.toInt32)), (.int 4), (.ref bb)])) rfl rfl (hb hby d6_31)
  have V14 : Arv Z h14 bb kb .byte (5 : Int32) [(.int (nar .byte (ch0.toInt8.toInt32))), (.int (nar .byte (ch1.toInt8.toInt32))), (.int (nar .byte (ch2.toInt8.toInt32))), (.int (nar .byte (ch3.toInt8.toInt32))), (.int (nar .byte (ch4.toInt8.toInt32)))] (.int 0) := Arv.set Ar14 q14 Sz14 Nn14 Hs14 Gs14 (fits_nar_byte _) W14 4 rfl (Nat.le_of_ble_eq_true rfl)
  have N14 := Fr.snoc X14 N11 gb
  have O_14 := O_11.wr W14 gb
  have K_14 := K_11.wr W14 (Or.inl (List.mem_of_getElem? (i := 0) rfl))
  refine Goes.step (B := T14.setTop (mkF m 32 #[.val (.ref ca), .val (.int 4), .val (.ref bb), .val (.int 4), .val (.int 5), .val (.int 4), .val (.int ch4)] [])) st14 ?_
  refine Goes.step (fun _ k => pw_iinc X14.here hx (l' := #[.val (.ref ca), .val (.int 5), .val (.ref bb), .val (.int 4), .val (.int 5), .val (.int 4), .val (.int ch4)]) (hb hby d6_32) rfl rfl _ (pw_iinc X14.here hx (l' := #[.val (.ref ca), .val (.int 5), .val (.ref bb), .val (.int 5), .val (.int 5), .val (.int 4), .val (.int ch4)]) (hb hby d6_35) rfl rfl _ (pw_iinc X14.here hx (l' := #[.val (.ref ca), .val (.int 5), .val (.ref bb), .val (.int 5), .val (.int 5), .val (.int 5), .val (.int ch4)]) (hb hby d6_38) rfl rfl _ (pw_goto X14.here hx (pc' := 3) (hb hby d6_41) (by decide) (by decide) _ (pw_iload X14.here hx (hb hby d6_3) rfl _ (pw_iload X14.here hx (hb hby d6_5) rfl _ k)))))) ?_
  refine Goes.step (fun _ k => pw_icmpYes X14.here hx (pc' := 44) (hb hby d6_7) (flt (by decide)).2.1 (by decide) (by decide) _ (pw_iload X14.here hx (hb hby d6_44) rfl _ k)) ?_
  exact Goes.retI X14 hx e14 Bd.returns hlk (hb hby d6_46) (by decide) (by decide) (⟨rfl, N14, K_14, V14⟩)
theorem ef_rmC3_5 (m : MethodId) (x0 : Addr) (x1 : Int32) (x2 : Int32) : entryFrame m #[(.ref x0), (.int x1), (.int x2)] 6 = mkF m 0 #[.val (.ref x0), .val (.int x1), .val (.int x2), .unset, .unset, .unset] [] := by first | (simp [entryFrame, mkF, argsToLocals, Value.category]; done) | rfl
def QC3_5 (Z : State) (ca : Addr) (kc : ClassId) (ch0 : Int32) (ch1 : Int32) (ch2 : Int32) (ch3 : Int32) (ch4 : Int32) (h0 : Heap) (n0 : Nat) (v : Option Value) (h : Heap) (L : List Loc) : Prop := ∃ (b : Addr) (k : ClassId), v = some (.ref b) ∧ Fr n0 L ∧ Keep h0 h [] ∧ n0 ≤ b ∧ h0.size ≤ b ∧ Arv Z h b k .byte (5 : Int32) [(.int (own_b ch0)), (.int (own_b ch1)), (.int (own_b ch2)), (.int (own_b ch3)), (.int (own_b ch4))] (.int 0)
set_option maxRecDepth 65536 in
set_option maxHeartbeats 40000000 in
theorem rmC3_5 (l : Launch) (Z : State) (a0 : Array Value) (hw : ∀ d ∈ tables_1, d.before a0 Z = true) (ws : List Jvm.Cond) (ca : Addr) (kc : ClassId) (ch0 : Int32) (ch1 : Int32) (ch2 : Int32) (ch3 : Int32) (ch4 : Int32) (h0 : Heap) (n0 : Nat) (O0 : Old Z n0 h0) (Vc : Arv Z h0 ca kc .char (5 : Int32) [.int ch0, .int ch1, .int ch2, .int ch3, .int ch4] (.int (0 : Int32))) (hk0 : own_ok ch0) (hk1 : own_ok ch1) (hk2 : own_ok ch2) (hk3 : own_ok ch3) (hk4 : own_ok ch4) :
    MetFree l (⟨"java/lang/StringUTF16", "compress", "([CII)[B"⟩ : MethodName) (head1 (Jvm.Cond.code (⟨"java/lang/StringUTF16", "compress", "([CII)[B"⟩ : MethodName) jdk_52_method_16_code 6 (some (.array .byte)) :: ws) ({ frames := 1, cells := 1, slots := 5, locals := 18 } : Room)) (fun a U => a = #[(.ref ca), (.int 0), (.int 5)] ∧ Z.Warmed39 U.vm ∧ U.heap = h0) (fun _ _ _ _ _ => True) (fun _ U o U' => ∃ v L, o = .returned v ∧ QC3_5 Z ca kc ch0 ch1 ch2 ch3 ch4 h0 n0 v U'.heap L ∧ FrameEnd U o U' L ({ frames := 1, cells := 1, slots := 5, locals := 18 } : Room).cells ({ frames := 1, cells := 1, slots := 5, locals := 18 } : Room).slots) := by
  refine MetFree.of_bodySF (plainFor_of_name pn_StringUTF16) hisR ?_
  intro p e s m args below meth c s₁ Bd hml0 hP hK
  obtain ⟨rfl, hZ, hh⟩ := hP
  have hx := Bd.exec
  have hby := Bd.bytes
  have hlk : meth.locks = false := BodyLoose.notSynchronized Bd
  have hml : c.maxLocals = 6 := hml0
  have hown : s.vm.findClass "java/lang/StringUTF16" = some m.cls := findClass_of_methodNamed Bd.named
  have hnm := (name_of_methodNamed Bd.named Bd.method).1
  have X0 : Stand p l e ({ frames := 1, cells := 1, slots := 5, locals := 18 } : Room) s m #[(.ref ca), (.int 0), (.int 5)] below meth c s₁ [] 0 0 := Stand.of_body Bd
  have e0 : s₁.heap = h0 := by rw [← hh, Bd.state]; rfl
  have N0 := Fr.nil n0
  show Goes p e below s (QC3_5 Z ca kc ch0 ch1 ch2 ch3 ch4 h0 n0) ({ frames := 1, cells := 1, slots := 5, locals := 18 } : Room).cells ({ frames := 1, cells := 1, slots := 5, locals := 18 } : Room).slots (s₁.setTop (entryFrame m #[(.ref ca), (.int 0), (.int 5)] 6))
  refine Goes.enter (g' := (mkF m 0 #[.val (.ref ca), .val (.int 0), .val (.int 5), .unset, .unset, .unset] [])) (ef_rmC3_5 m ca ((0 : Int32)) ((5 : Int32))) ?_
  refine Goes.step (fun _ k => pw_iloadN X0.here hx (hb hby d5_0) rfl _ k) ?_
  obtain ⟨T1, h1, k1, X1, e1, E1, A1, st1⟩ := newP (aty := .byte) X0 hx hZ (own_w23 hw) e0 (g := (mkF m 1 #[.val (.ref ca), .val (.int 0), .val (.int 5), .unset, .unset, .unset] [(.int 5)])) rfl (hb hby d5_1) rfl (by decide) (cap := 5) (by decide) (by decide) (by decide) (by decide)
  obtain ⟨b1, g1⟩ : ∃ z, z = h0.size := ⟨_, rfl⟩
  rw [← g1] at A1 st1
  have ne_ca_b1 : ca ≠ b1 := Nat.ne_of_lt (Nat.lt_of_lt_of_le Vc.lt (Nat.le_of_eq g1.symm))
  have g_b1 : n0 ≤ b1 := Nat.le_trans (own_z O0) (Nat.le_of_eq g1.symm)
  have O_1 := O0.ext E1
  have sz_b1 : h0.size ≤ b1 := Nat.le_trans (Keep.refl h0 []).1 (Nat.le_of_eq g1.symm)
  have K_1 := (Keep.refl h0 []).ext E1
  have V_b1 : Arv Z h1 b1 k1 .byte (5 : Int32) [(.int 0), (.int 0), (.int 0), (.int 0), (.int 0)] (.int 0) := (Arv.new A1 (by decide)).pad (pad_rep [] (.int 0) 5)
  refine Goes.step (B := T1.setTop (mkF m 3 #[.val (.ref ca), .val (.int 0), .val (.int 5), .unset, .unset, .unset] [(.ref b1)])) st1 ?_
  refine Goes.step (fun _ k => pw_astoreN X1.here hx (l' := #[.val (.ref ca), .val (.int 0), .val (.int 5), .val (.ref b1), .unset, .unset]) (hb hby d5_3) rfl rfl _ (pw_aloadN X1.here hx (hb hby d5_4) rfl rfl _ (pw_iloadN X1.here hx (hb hby d5_5) rfl _ (pw_aloadN X1.here hx (hb hby d5_6) rfl rfl _ (pw_iconst X1.here hx (v := (0 : Int32)) (hb hby d5_7) rfl _ (pw_iloadN X1.here hx (hb hby d5_8) rfl _ k)))))) ?_
  have f3 := (Vc.ext E1)
  obtain ⟨_, _, ⟨T2, qL2, qk2, qn2⟩, -, X2, ⟨Lc2, hQ2, ql2, qy2, qz2⟩, st2⟩ := Jvm.LawKit.callS X1 hx (y := (⟨"java/lang/StringUTF16", "compress", "([CI[BII)I"⟩ : MethodName)) hown (mvT hZ (own_w24 hw)) (mvT hZ (own_w25 hw)) (mvT hZ (own_w21 hw)) (mvT hZ (own_w26 hw)) (by decide) (backOf (W := 0) (rmC5_5 l Z a0 hw [] ca kc b1 k1 ch0 ch1 ch2 ch3 ch4 h1 n0 O_1 f3 V_b1 g_b1 ne_ca_b1 hk0 hk1 hk2 hk3 hk4) hZ (own_w26 hw) (own_w21 hw) (by decide) (by decide)) (g := (mkF m 9 #[.val (.ref ca), .val (.int 0), .val (.int 5), .val (.ref b1), .unset, .unset] [(.int 5), (.int 0), (.ref b1), (.int 0), (.ref ca)])) rfl (by rw [hml]; rfl) (argsL := [(.ref ca), (.int 0), (.ref b1), (.int 0), (.int 5)]) (rest := []) (lenOf pd_1 rfl) rfl (by show 2 * 0 + _ ≤ _; exact Nat.le_of_eq rfl) (hb hby d5_9) (fun _ _ => ⟨rfl, e1, (by decide : 1 + 0 ≤ _), (by decide : 5 + 0 ≤ _)⟩)
  dsimp only [Pt.U, Pt.locs, Pt.cells, Pt.slots] at X2 ql2 qy2 qz2 st2 hQ2
  rw [ql2, qy2, qz2] at X2
  obtain ⟨rfl, Nq2, Kp2, Vq2⟩ := hQ2
  have O_2 := O_1.keep Kp2 (allS g_b1 all0)
  have K_2 := K_1.trans Kp2 (allS (P := fun x => x ∈ _ ∨ _) (Or.inr sz_b1) all0)
  have N2 := Fr.app N0 Nq2
  refine Goes.step (B := T2.setTop (mkF m 12 #[.val (.ref ca), .val (.int 0), .val (.int 5), .val (.ref b1), .unset, .unset] [(.int 5)])) st2 ?_
  refine Goes.step (fun _ k => pw_istore X2.here hx (l' := #[.val (.ref ca), .val (.int 0), .val (.int 5), .val (.ref b1), .val (.int 5), .unset]) (hb hby d5_12) rfl _ (pw_iload X2.here hx (hb hby d5_14) rfl _ (pw_iloadN X2.here hx (hb hby d5_16) rfl _ (pw_icmpYes X2.here hx (pc' := 57) (hb hby d5_17) (teq (by decide)).1 (by decide) (by decide) _ (pw_aloadN X2.here hx (hb hby d5_57) rfl rfl _ k))))) ?_
  exact Goes.retA X2 hx rfl Bd.returns rfl rfl hlk (hb hby d5_58) (by decide) (by decide) (⟨b1, k1, rfl, N2, K_2, g_b1, sz_b1, Vq2⟩)
theorem ef_rmCF_5 (m : MethodId) (x0 : Addr) (x1 : Int32) : entryFrame m #[(.ref x0), (.int x1)] 2 = mkF m 0 #[.val (.ref x0), .val (.int x1)] [] := by first | (simp [entryFrame, mkF, argsToLocals, Value.category]; done) | rfl
def QCF_5 (Z : State) (bb : Addr) (kb : ClassId) (ls : List Value) (h0 : Heap) (n0 : Nat) (v : Option Value) (h : Heap) (L : List Loc) : Prop := v = some (.int 0) ∧ Fr n0 L ∧ h = h0
set_option maxRecDepth 65536 in
set_option maxHeartbeats 40000000 in
theorem rmCF_5 (l : Launch) (Z : State) (a0 : Array Value) (hw : ∀ d ∈ tables_1, d.before a0 Z = true) (ws : List Jvm.Cond) (bb : Addr) (kb : ClassId) (ls : List Value) (h0 : Heap) (n0 : Nat) (O0 : Old Z n0 h0) (Vb : Arv Z h0 bb kb .byte (5 : Int32) ls (.int (0 : Int32))) :
    MetFree l (⟨"java/lang/StringUTF16", "coderFromArrayLen", "([BI)B"⟩ : MethodName) (head1 (Jvm.Cond.code (⟨"java/lang/StringUTF16", "coderFromArrayLen", "([BI)B"⟩ : MethodName) jdk_52_method_15_code 2 (some .byte) :: ws) ({ frames := 0, cells := 0, slots := 0, locals := 0 } : Room)) (fun a U => a = #[(.ref bb), (.int 5)] ∧ Z.Warmed39 U.vm ∧ U.heap = h0) (fun _ _ _ _ _ => True) (fun _ U o U' => ∃ v L, o = .returned v ∧ QCF_5 Z bb kb ls h0 n0 v U'.heap L ∧ FrameEnd U o U' L ({ frames := 0, cells := 0, slots := 0, locals := 0 } : Room).cells ({ frames := 0, cells := 0, slots := 0, locals := 0 } : Room).slots) := by
  refine MetFree.of_bodySF (plainFor_of_name pn_StringUTF16) hisR ?_
  intro p e s m args below meth c s₁ Bd hml0 hP hK
  obtain ⟨rfl, hZ, hh⟩ := hP
  have hx := Bd.exec
  have hby := Bd.bytes
  have hlk : meth.locks = false := BodyLoose.notSynchronized Bd
  have hml : c.maxLocals = 2 := hml0
  have hown : s.vm.findClass "java/lang/StringUTF16" = some m.cls := findClass_of_methodNamed Bd.named
  have hnm := (name_of_methodNamed Bd.named Bd.method).1
  have X0 : Stand p l e ({ frames := 0, cells := 0, slots := 0, locals := 0 } : Room) s m #[(.ref bb), (.int 5)] below meth c s₁ [] 0 0 := Stand.of_body Bd
  have e0 : s₁.heap = h0 := by rw [← hh, Bd.state]; rfl
  have N0 := Fr.nil n0
  show Goes p e below s (QCF_5 Z bb kb ls h0 n0) ({ frames := 0, cells := 0, slots := 0, locals := 0 } : Room).cells ({ frames := 0, cells := 0, slots := 0, locals := 0 } : Room).slots (s₁.setTop (entryFrame m #[(.ref bb), (.int 5)] 2))
  refine Goes.enter (g' := (mkF m 0 #[.val (.ref bb), .val (.int 5)] [])) (ef_rmCF_5 m bb ((5 : Int32))) ?_
  refine Goes.step (fun _ k => pw_iloadN X0.here hx (hb hby d7_0) rfl _ (pw_aloadN X0.here hx (hb hby d7_1) rfl rfl _ k)) ?_
  obtain ⟨c1, Ar1, -, Sz1, Nn1, -, -⟩ := id Vb
  have len1 := X0.arraylength hx (by rw [e0]; exact Ar1.1) (State.isArrayOf_alike hZ.alike Ar1.2.1) (g := (mkF m 2 #[.val (.ref bb), .val (.int 5)] [(.ref bb), (.int 5)])) rfl rfl (hb hby d7_2)
  rw [len_of Sz1 Nn1] at len1
  refine Goes.step (B := s₁.setTop (mkF m 3 #[.val (.ref bb), .val (.int 5)] [(.int 5), (.int 5)])) len1 ?_
  refine Goes.step (B := s₁.setTop (mkF m 4 #[.val (.ref bb), .val (.int 5)] [(.int 0)])) (fun _ k => XS.isub X0.here hx rfl (hb hby d7_3) rfl k) ?_
  refine Goes.step (fun _ k => pw_bipush X0.here hx (v := (31 : Int32)) (hb hby d7_4) rfl _ k) ?_
  refine Goes.step (B := s₁.setTop (mkF m 7 #[.val (.ref bb), .val (.int 5)] [(.int 0)])) (fun _ k => XS.iushr X0.here hx rfl (hb hby d7_6) rfl k) ?_
  refine Goes.step (B := s₁.setTop (mkF m 8 #[.val (.ref bb), .val (.int 5)] [(.int 0)])) (fun _ k => XS.i2b X0.here hx rfl (hb hby d7_7) rfl k) ?_
  exact Goes.retN X0 hx e0 (t := .byte) Bd.returns (by simp) hlk (hb hby d7_8) (by decide) (by decide) (⟨rfl, N0, rfl⟩)
theorem ef_rmSJ_5 (m : MethodId) (x0 : Addr) (x1 : Addr) (x2 : Int32) (x3 : Int32) : entryFrame m #[(.ref x0), (.ref x1), (.int x2), (.int x3), .null] 6 = mkF m 0 #[.val (.ref x0), .val (.ref x1), .val (.int x2), .val (.int x3), .val .null, .unset] [] := by first | (simp [entryFrame, mkF, argsToLocals, Value.category]; done) | rfl
def QSJ_5 (Z : State) (a0r : Addr) (ca : Addr) (kc : ClassId) (cs : Int32) (ch0 : Int32) (ch1 : Int32) (ch2 : Int32) (ch3 : Int32) (ch4 : Int32) (h0 : Heap) (n0 : Nat) (v : Option Value) (h : Heap) (L : List Loc) : Prop := v = none ∧ Fr n0 L ∧ Keep h0 h [a0r] ∧ Exa Z h a0r "java/lang/String" ∧ ∃ (vb : Addr) (kv : ClassId), Fld Z h a0r "java/lang/String" "value" "[B" (.ref vb) ∧ Fld Z h a0r "java/lang/String" "coder" "B" (.int (0 : Int32)) ∧ Arv Z h vb kv .byte (5 : Int32) [.int (own_b ch0), .int (own_b ch1), .int (own_b ch2), .int (own_b ch3), .int (own_b ch4)] (.int (0 : Int32))
set_option maxRecDepth 65536 in
set_option maxHeartbeats 40000000 in
theorem rmSJ_5 (l : Launch) (Z : State) (a0 : Array Value) (hw : ∀ d ∈ tables_1, d.before a0 Z = true) (ws : List Jvm.Cond) (a0r : Addr) (ca : Addr) (kc : ClassId) (cs : Int32) (ch0 : Int32) (ch1 : Int32) (ch2 : Int32) (ch3 : Int32) (ch4 : Int32) (h0 : Heap) (n0 : Nat) (O0 : Old Z n0 h0) (Er : Exa Z h0 a0r "java/lang/String") (gr : n0 ≤ a0r) (Fr_value : Fld Z h0 a0r "java/lang/String" "value" "[B" .null) (Fr_coder : Fld Z h0 a0r "java/lang/String" "coder" "B" (.int (0 : Int32))) (Vc : Arv Z h0 ca kc .char (5 : Int32) [.int ch0, .int ch1, .int ch2, .int ch3, .int ch4] (.int (0 : Int32))) (Sc : Sta Z h0 "java/lang/String" "COMPACT_STRINGS" "Z" (.int cs)) (hcs : ¬ cs = (0 : Int32)) (hk0 : own_ok ch0) (hk1 : own_ok ch1) (hk2 : own_ok ch2) (hk3 : own_ok ch3) (hk4 : own_ok ch4) :
    MetFree l (⟨"java/lang/String", "<init>", "([CIILjava/lang/Void;)V"⟩ : MethodName) (head1 (Jvm.Cond.code (⟨"java/lang/String", "<init>", "([CIILjava/lang/Void;)V"⟩ : MethodName) jdk_42_method_149_code 6 none :: ws) ({ frames := 2, cells := 1, slots := 5, locals := 35 } : Room)) (fun a U => a = #[(.ref a0r), (.ref ca), (.int 0), (.int 5), .null] ∧ Z.Warmed39 U.vm ∧ U.heap = h0) (fun _ _ _ _ _ => True) (fun _ U o U' => ∃ v L, o = .returned v ∧ QSJ_5 Z a0r ca kc cs ch0 ch1 ch2 ch3 ch4 h0 n0 v U'.heap L ∧ FrameEnd U o U' L ({ frames := 2, cells := 1, slots := 5, locals := 35 } : Room).cells ({ frames := 2, cells := 1, slots := 5, locals := 35 } : Room).slots) := by
  refine MetFree.of_bodySF (plainFor_of_name pn_String) hisR ?_
  intro p e s m args below meth c s₁ Bd hml0 hP hK
  obtain ⟨rfl, hZ, hh⟩ := hP
  have hx := Bd.exec
  have hby := Bd.bytes
  have hlk : meth.locks = false := BodyLoose.notSynchronized Bd
  have hml : c.maxLocals = 6 := hml0
  have hown : s.vm.findClass "java/lang/String" = some m.cls := findClass_of_methodNamed Bd.named
  have hnm := (name_of_methodNamed Bd.named Bd.method).1
  have X0 : Stand p l e ({ frames := 2, cells := 1, slots := 5, locals := 35 } : Room) s m #[(.ref a0r), (.ref ca), (.int 0), (.int 5), .null] below meth c s₁ [] 0 0 := Stand.of_body Bd
  have e0 : s₁.heap = h0 := by rw [← hh, Bd.state]; rfl
  have N0 := Fr.nil n0
  show Goes p e below s (QSJ_5 Z a0r ca kc cs ch0 ch1 ch2 ch3 ch4 h0 n0) ({ frames := 2, cells := 1, slots := 5, locals := 35 } : Room).cells ({ frames := 2, cells := 1, slots := 5, locals := 35 } : Room).slots (s₁.setTop (entryFrame m #[(.ref a0r), (.ref ca), (.int 0), (.int 5), .null] 6))
  refine Goes.enter (g' := (mkF m 0 #[.val (.ref a0r), .val (.ref ca), .val (.int 0), .val (.int 5), .val .null, .unset] [])) (ef_rmSJ_5 m a0r ca ((0 : Int32)) ((5 : Int32))) ?_
  refine Goes.step (fun _ k => pw_aloadN X0.here hx (hb hby d3_0) rfl rfl _ k) ?_
  obtain ⟨T1, X1, e1, st1⟩ := initO X0 hx hZ hown (own_w15 hw) (own_w16 hw) (own_w17 hw) e0 (g := (mkF m 1 #[.val (.ref a0r), .val (.ref ca), .val (.int 0), .val (.int 5), .val .null, .unset] [(.ref a0r)])) rfl (by rw [hml]; rfl) rfl (hb hby d3_1) (by decide) (W := 0) (by show 2 * 0 + _ ≤ _; exact Nat.le_of_eq rfl) (by decide)
  refine Goes.step (B := T1.setTop (mkF m 4 #[.val (.ref a0r), .val (.ref ca), .val (.int 0), .val (.int 5), .val .null, .unset] [])) st1 ?_
  refine Goes.step (fun _ k => pw_iloadN X1.here hx (hb hby d3_4) rfl _ (pw_ifYes X1.here hx (pc' := 27) (hb hby d3_5) ((if0 _ _).trans (feq (by decide)).2) (by decide) (by decide) _ k)) ?_
  obtain ⟨T2, X2, e2, st2⟩ := getS2 X1 hx hZ hown (host := "") (Or.inl (own_w18 hw)) Via.refl e1 Sc (g := (mkF m 27 #[.val (.ref a0r), .val (.ref ca), .val (.int 0), .val (.int 5), .val .null, .unset] [])) rfl (hb hby d3_27)
  refine Goes.step (B := T2.setTop (mkF m 30 #[.val (.ref a0r), .val (.ref ca), .val (.int 0), .val (.int 5), .val .null, .unset] [(.int cs)])) st2 ?_
  refine Goes.step (fun _ k => pw_ifNo X2.here hx (hb hby d3_30) ((if0 _ _).trans (feq hcs).1) _ (pw_aloadN X2.here hx (hb hby d3_33) rfl rfl _ (pw_iloadN X2.here hx (hb hby d3_34) rfl _ (pw_iloadN X2.here hx (hb hby d3_35) rfl _ k)))) ?_
  have lt_a0r_3 := Er.lt
  have lt_ca_3 := Vc.lt
  obtain ⟨_, _, ⟨T3, qL3, qk3, qn3⟩, -, X3, ⟨Lc3, hQ3, ql3, qy3, qz3⟩, st3⟩ := Jvm.LawKit.callS X2 hx (y := (⟨"java/lang/StringUTF16", "compress", "([CII)[B"⟩ : MethodName)) hown (mvT hZ (own_w19 hw)) (mvT hZ (own_w20 hw)) (mvT hZ (own_w21 hw)) (mvT hZ (own_w22 hw)) (by decide) (backOf (W := 0) (rmC3_5 l Z a0 hw [] ca kc ch0 ch1 ch2 ch3 ch4 h0 n0 O0 Vc hk0 hk1 hk2 hk3 hk4) hZ (own_w22 hw) (own_w21 hw) (by decide) (by decide)) (g := (mkF m 36 #[.val (.ref a0r), .val (.ref ca), .val (.int 0), .val (.int 5), .val .null, .unset] [(.int 5), (.int 0), (.ref ca)])) rfl (by rw [hml]; rfl) (argsL := [(.ref ca), (.int 0), (.int 5)]) (rest := []) (lenOf pd_2 rfl) rfl (by show 2 * 0 + _ ≤ _; exact Nat.le_of_eq rfl) (hb hby d3_36) (fun _ _ => ⟨rfl, e2, (by decide : 0 + 1 ≤ _), (by decide : 0 + 5 ≤ _)⟩)
  dsimp only [Pt.U, Pt.locs, Pt.cells, Pt.slots] at X3 ql3 qy3 qz3 st3 hQ3
  rw [ql3, qy3, qz3] at X3
  obtain ⟨fb3, fk3, rfl, Nq3, Kp3, gb3, sb3, Vb3⟩ := hQ3
  have ne_a0r_fb3 : a0r ≠ fb3 := Nat.ne_of_lt (Nat.lt_of_lt_of_le lt_a0r_3 sb3)
  have ne_ca_fb3 : ca ≠ fb3 := Nat.ne_of_lt (Nat.lt_of_lt_of_le lt_ca_3 sb3)
  have O_3 := O0.keep Kp3 all0
  have K_3 := (Keep.refl h0 [a0r]).trans Kp3 all0
  have N3 := Fr.app N0 Nq3
  refine Goes.step (B := T3.setTop (mkF m 39 #[.val (.ref a0r), .val (.ref ca), .val (.int 0), .val (.int 5), .val .null, .unset] [(.ref fb3)])) st3 ?_
  refine Goes.step (fun _ k => pw_astore X3.here hx (l' := #[.val (.ref a0r), .val (.ref ca), .val (.int 0), .val (.int 5), .val .null, .val (.ref fb3)]) (hb hby d3_39) rfl rfl _ (pw_aloadN X3.here hx (hb hby d3_41) rfl rfl _ (pw_aload X3.here hx (hb hby d3_42) rfl rfl _ (pw_iloadN X3.here hx (hb hby d3_44) rfl _ k)))) ?_
  obtain ⟨_, _, ⟨T4, qL4, qk4, qn4⟩, -, X4, ⟨Lc4, hQ4, ql4, qy4, qz4⟩, st4⟩ := Jvm.LawKit.callS X3 hx (y := (⟨"java/lang/StringUTF16", "coderFromArrayLen", "([BI)B"⟩ : MethodName)) hown (mvT hZ (own_w27 hw)) (mvT hZ (own_w28 hw)) (mvT hZ (own_w21 hw)) (mvT hZ (own_w29 hw)) (by decide) (backOf (W := 1) (rmCF_5 l Z a0 hw [] fb3 fk3 [(.int (own_b ch0)), (.int (own_b ch1)), (.int (own_b ch2)), (.int (own_b ch3)), (.int (own_b ch4))] T3.heap n0 O_3 Vb3) hZ (own_w29 hw) (own_w21 hw) (by decide) (by decide)) (g := (mkF m 45 #[.val (.ref a0r), .val (.ref ca), .val (.int 0), .val (.int 5), .val .null, .val (.ref fb3)] [(.int 5), (.ref fb3), (.ref a0r)])) rfl (by rw [hml]; rfl) (argsL := [(.ref fb3), (.int 5)]) (rest := [(.ref a0r)]) (lenOf pd_3 rfl) rfl (by show 2 * 0 + _ ≤ _; exact Nat.le_of_eq rfl) (hb hby d3_45) (fun _ _ => ⟨rfl, rfl, (by decide : 1 + 0 ≤ _), (by decide : 5 + 0 ≤ _)⟩)
  dsimp only [Pt.U, Pt.locs, Pt.cells, Pt.slots] at X4 ql4 qy4 qz4 st4 hQ4
  rw [ql4, qy4, qz4] at X4
  obtain ⟨rfl, Nq4, eh4⟩ := hQ4
  have N4 := Fr.app N3 Nq4
  refine Goes.step (B := T4.setTop (mkF m 48 #[.val (.ref a0r), .val (.ref ca), .val (.int 0), .val (.int 5), .val .null, .val (.ref fb3)] [(.int 0), (.ref a0r)])) st4 ?_
  have f5 := (Er.keep Kp3)
  have f6 := (Fr_coder.keep Kp3 nin0)
  obtain ⟨T7, h7, X7, e7, W7, st7⟩ := putFN X4 hx hZ hown (own_w30 hw) Via.refl eh4 f6 f5 (Or.inr ⟨(own_w31 hw), rfl, hnm⟩) (own_w6 hw) (ty := .byte) (v' := (.int 0)) (by decide) rfl (by decide) (g := (mkF m 48 #[.val (.ref a0r), .val (.ref ca), .val (.int 0), .val (.int 5), .val .null, .val (.ref fb3)] [(.int 0), (.ref a0r)])) rfl rfl (hb hby d3_48)
  have Fw7 := f6.same W7
  have N7 := Fr.snoc X7 N4 gr
  have O_7 := O_3.wr W7 gr
  have K_7 := K_3.wr W7 (Or.inl (List.mem_of_getElem? (i := 0) rfl))
  refine Goes.step (B := T7.setTop (mkF m 51 #[.val (.ref a0r), .val (.ref ca), .val (.int 0), .val (.int 5), .val .null, .val (.ref fb3)] [])) st7 ?_
  refine Goes.step (fun _ k => pw_aloadN X7.here hx (hb hby d3_51) rfl rfl _ (pw_aload X7.here hx (hb hby d3_52) rfl rfl _ k)) ?_
  have f8 := (f5.wr W7)
  have f9 := ((Fr_value.keep Kp3 nin0).other W7 (Or.inr (slot_ne (Or.inr (own_w33 hw)) (Or.inr (own_w31 hw)) (by decide) (t := (.array .byte)) (t' := .byte) (by decide) (by decide))))
  obtain ⟨T10, h10, X10, e10, W10, st10⟩ := putF X7 hx hZ hown (host := "") (Or.inl (own_w32 hw)) Via.refl e7 f9 f8 (Or.inr ⟨(own_w33 hw), rfl, hnm⟩) (own_w6 hw) (ty := (.array .byte)) (by decide) rfl rfl (g := (mkF m 54 #[.val (.ref a0r), .val (.ref ca), .val (.int 0), .val (.int 5), .val .null, .val (.ref fb3)] [(.ref fb3), (.ref a0r)])) rfl rfl (hb hby d3_54)
  have Fw10 := f9.same W10
  have N10 := Fr.snoc X10 N7 gr
  have O_10 := O_7.wr W10 gr
  have K_10 := K_7.wr W10 (Or.inl (List.mem_of_getElem? (i := 0) rfl))
  refine Goes.step (B := T10.setTop (mkF m 57 #[.val (.ref a0r), .val (.ref ca), .val (.int 0), .val (.int 5), .val .null, .val (.ref fb3)] [])) st10 ?_
  have f11 := (f8.wr W10)
  have f12 := (Fw7.other W10 (Or.inr (slot_ne (Or.inr (own_w31 hw)) (Or.inr (own_w33 hw)) (by decide) (t := .byte) (t' := (.array .byte)) (by decide) (by decide))))
  have f13 := ((Vb3.other W7 (Ne.symm ne_a0r_fb3)).other W10 (Ne.symm ne_a0r_fb3))
  exact Goes.retV X10 hx e10 Bd.returns hlk (hb hby d3_57) (by decide) (by decide) (⟨rfl, N10, K_10, f11, fb3, fk3, Fw10, f12, f13⟩)
theorem ef_rmSI_5 (m : MethodId) (x0 : Addr) (x1 : Addr) : entryFrame m #[(.ref x0), (.ref x1)] 2 = mkF m 0 #[.val (.ref x0), .val (.ref x1)] [] := by first | (simp [entryFrame, mkF, argsToLocals, Value.category]; done) | rfl
def QSI_5 (Z : State) (a0r : Addr) (ca : Addr) (kc : ClassId) (cs : Int32) (ch0 : Int32) (ch1 : Int32) (ch2 : Int32) (ch3 : Int32) (ch4 : Int32) (h0 : Heap) (n0 : Nat) (v : Option Value) (h : Heap) (L : List Loc) : Prop := v = none ∧ Fr n0 L ∧ Keep h0 h [a0r] ∧ Exa Z h a0r "java/lang/String" ∧ ∃ (vb : Addr) (kv : ClassId), Fld Z h a0r "java/lang/String" "value" "[B" (.ref vb) ∧ Fld Z h a0r "java/lang/String" "coder" "B" (.int (0 : Int32)) ∧ Arv Z h vb kv .byte (5 : Int32) [.int (own_b ch0), .int (own_b ch1), .int (own_b ch2), .int (own_b ch3), .int (own_b ch4)] (.int (0 : Int32))
set_option maxRecDepth 65536 in
set_option maxHeartbeats 40000000 in
theorem rmSI_5 (l : Launch) (Z : State) (a0 : Array Value) (hw : ∀ d ∈ tables_1, d.before a0 Z = true) (ws : List Jvm.Cond) (a0r : Addr) (ca : Addr) (kc : ClassId) (cs : Int32) (ch0 : Int32) (ch1 : Int32) (ch2 : Int32) (ch3 : Int32) (ch4 : Int32) (h0 : Heap) (n0 : Nat) (O0 : Old Z n0 h0) (Er : Exa Z h0 a0r "java/lang/String") (gr : n0 ≤ a0r) (Fr_value : Fld Z h0 a0r "java/lang/String" "value" "[B" .null) (Fr_coder : Fld Z h0 a0r "java/lang/String" "coder" "B" (.int (0 : Int32))) (Vc : Arv Z h0 ca kc .char (5 : Int32) [.int ch0, .int ch1, .int ch2, .int ch3, .int ch4] (.int (0 : Int32))) (Sc : Sta Z h0 "java/lang/String" "COMPACT_STRINGS" "Z" (.int cs)) (hcs : ¬ cs = (0 : Int32)) (hk0 : own_ok ch0) (hk1 : own_ok ch1) (hk2 : own_ok ch2) (hk3 : own_ok ch3) (hk4 : own_ok ch4) :
    MetFree l (⟨"java/lang/String", "<init>", "([C)V"⟩ : MethodName) (head1 (Jvm.Cond.code (⟨"java/lang/String", "<init>", "([C)V"⟩ : MethodName) jdk_42_method_3_code 2 none :: ws) ({ frames := 3, cells := 1, slots := 5, locals := 52 } : Room)) (fun a U => a = #[(.ref a0r), (.ref ca)] ∧ Z.Warmed39 U.vm ∧ U.heap = h0) (fun _ _ _ _ _ => True) (fun _ U o U' => ∃ v L, o = .returned v ∧ QSI_5 Z a0r ca kc cs ch0 ch1 ch2 ch3 ch4 h0 n0 v U'.heap L ∧ FrameEnd U o U' L ({ frames := 3, cells := 1, slots := 5, locals := 52 } : Room).cells ({ frames := 3, cells := 1, slots := 5, locals := 52 } : Room).slots) := by
  refine MetFree.of_bodySF (plainFor_of_name pn_String) hisR ?_
  intro p e s m args below meth c s₁ Bd hml0 hP hK
  obtain ⟨rfl, hZ, hh⟩ := hP
  have hx := Bd.exec
  have hby := Bd.bytes
  have hlk : meth.locks = false := BodyLoose.notSynchronized Bd
  have hml : c.maxLocals = 2 := hml0
  have hown : s.vm.findClass "java/lang/String" = some m.cls := findClass_of_methodNamed Bd.named
  have hnm := (name_of_methodNamed Bd.named Bd.method).1
  have X0 : Stand p l e ({ frames := 3, cells := 1, slots := 5, locals := 52 } : Room) s m #[(.ref a0r), (.ref ca)] below meth c s₁ [] 0 0 := Stand.of_body Bd
  have e0 : s₁.heap = h0 := by rw [← hh, Bd.state]; rfl
  have N0 := Fr.nil n0
  show Goes p e below s (QSI_5 Z a0r ca kc cs ch0 ch1 ch2 ch3 ch4 h0 n0) ({ frames := 3, cells := 1, slots := 5, locals := 52 } : Room).cells ({ frames := 3, cells := 1, slots := 5, locals := 52 } : Room).slots (s₁.setTop (entryFrame m #[(.ref a0r), (.ref ca)] 2))
  refine Goes.enter (g' := (mkF m 0 #[.val (.ref a0r), .val (.ref ca)] [])) (ef_rmSI_5 m a0r ca) ?_
  refine Goes.step (fun _ k => pw_aloadN X0.here hx (hb hby d2_0) rfl rfl _ (pw_aloadN X0.here hx (hb hby d2_1) rfl rfl _ (pw_iconst X0.here hx (v := (0 : Int32)) (hb hby d2_2) rfl _ (pw_aloadN X0.here hx (hb hby d2_3) rfl rfl _ k)))) ?_
  obtain ⟨c1, Ar1, -, Sz1, Nn1, -, -⟩ := id Vc
  have len1 := X0.arraylength hx (by rw [e0]; exact Ar1.1) (State.isArrayOf_alike hZ.alike Ar1.2.1) (g := (mkF m 4 #[.val (.ref a0r), .val (.ref ca)] [(.ref ca), (.int 0), (.ref ca), (.ref a0r)])) rfl rfl (hb hby d2_4)
  rw [len_of Sz1 Nn1] at len1
  refine Goes.step (B := s₁.setTop (mkF m 5 #[.val (.ref a0r), .val (.ref ca)] [(.int 5), (.int 0), (.ref ca), (.ref a0r)])) len1 ?_
  refine Goes.step (fun _ k => pw_aconstNull X0.here hx (hb hby d2_5) _ k) ?_
  obtain ⟨_, _, ⟨T2, qL2, qk2, qn2⟩, -, X2, ⟨Lc2, hQ2, ql2, qy2, qz2⟩, st2⟩ := X0.specialBack hx (y := (⟨"java/lang/String", "<init>", "([CIILjava/lang/Void;)V"⟩ : MethodName)) rfl hown (mvT hZ (own_w11 hw)) (mvT hZ (own_w12 hw)) (mvT hZ (own_w14 hw)) (by decide) (backOf (W := 0) (rmSJ_5 l Z a0 hw [] a0r ca kc cs ch0 ch1 ch2 ch3 ch4 h0 n0 O0 Er gr Fr_value Fr_coder Vc Sc hcs hk0 hk1 hk2 hk3 hk4) hZ (own_w14 hw) (own_w7 hw) (by decide) (by decide)) (g := (mkF m 6 #[.val (.ref a0r), .val (.ref ca)] [.null, (.int 5), (.int 0), (.ref ca), (.ref a0r)])) rfl (by rw [hml]; rfl) (Steps.refl _) (a := a0r) (argsL := [(.ref ca), (.int 0), (.int 5), .null]) (rest := []) (lenOf pd_0 rfl) rfl (by show 2 * 0 + _ ≤ _; exact Nat.le_of_eq rfl) (hb hby d2_6) (fun _ _ => ⟨rfl, e0, (by decide : 0 + 1 ≤ _), (by decide : 0 + 5 ≤ _)⟩)
  dsimp only [Pt.U, Pt.locs, Pt.cells, Pt.slots] at X2 ql2 qy2 qz2 st2 hQ2
  rw [ql2, qy2, qz2] at X2
  obtain ⟨rfl, Nq2, Kp2, Ex2, sv2, sk2, Fsv2, Fsc2, Vsv2⟩ := hQ2
  have O_2 := O0.keep Kp2 (allS gr all0)
  have K_2 := (Keep.refl h0 [a0r]).trans Kp2 (allS (P := fun x => x ∈ _ ∨ _) (Or.inl (List.mem_of_getElem? (i := 0) rfl)) all0)
  have N2 := Fr.app N0 Nq2
  refine Goes.via (B := T2.setTop (mkF m 9 #[.val (.ref a0r), .val (.ref ca)] [])) st2 ?_
  exact Goes.retV X2 hx rfl Bd.returns hlk (hb hby d2_9) (by decide) (by decide) (⟨rfl, N2, K_2, Ex2, sv2, sk2, Fsv2, Fsc2, Vsv2⟩)
theorem d11_0 : decode jdk_42_method_152_code 0 = .ok (.getstatic 38, 3) := by decide +kernel
theorem d11_3 : decode jdk_42_method_152_code 3 = .ok (.ifCond .eq 10, 3) := by decide +kernel
theorem d11_6 : decode jdk_42_method_152_code 6 = .ok (.aload_n 0, 1) := by decide +kernel
theorem d11_7 : decode jdk_42_method_152_code 7 = .ok (.getfield 15, 3) := by decide +kernel
theorem d11_10 : decode jdk_42_method_152_code 10 = .ok (.goto 4, 3) := by decide +kernel
theorem d11_14 : decode jdk_42_method_152_code 14 = .ok (.ireturn, 1) := by decide +kernel
theorem ef_rm11 (m : MethodId) (x0 : Addr) : entryFrame m #[(.ref x0)] 1 = mkF m 0 #[.val (.ref x0)] [] := by first | (simp [entryFrame, mkF, argsToLocals, Value.category]; done) | rfl
def Q11 (Z : State) (a1 : Addr) (b1 : Addr) (k1 : ClassId) (z1 : Int32) (xs : List Int32) (cs : Int32) (h0 : Heap) (n0 : Nat) (v : Option Value) (h : Heap) (L : List Loc) : Prop := v = some (.int 0) ∧ Fr n0 L ∧ h = h0
set_option maxRecDepth 65536 in
set_option maxHeartbeats 40000000 in
theorem rm11 (l : Launch) (Z : State) (a0 : Array Value) (hw : ∀ d ∈ tables_1, d.before a0 Z = true) (ws : List Jvm.Cond) (a1 : Addr) (b1 : Addr) (k1 : ClassId) (z1 : Int32) (xs : List Int32) (cs : Int32) (h0 : Heap) (n0 : Nat) (O0 : Old Z n0 h0) (Sc : Sta Z h0 "java/lang/String" "COMPACT_STRINGS" "Z" (.int cs)) (hcs : ¬ cs = (0 : Int32)) (E1 : Exa Z h0 a1 "java/lang/String") (Fc1 : Fld Z h0 a1 "java/lang/String" "coder" "B" (.int (0 : Int32))) (Fv1 : Fld Z h0 a1 "java/lang/String" "value" "[B" (.ref b1)) (V1 : Arv Z h0 b1 k1 .byte z1 (xs.map Value.int) (.int (0 : Int32))) :
    MetFree l (⟨"java/lang/String", "coder", "()B"⟩ : MethodName) (head1 (Jvm.Cond.code (⟨"java/lang/String", "coder", "()B"⟩ : MethodName) jdk_42_method_152_code 1 (some .byte) :: ws) ({ frames := 0, cells := 0, slots := 0, locals := 0 } : Room)) (fun a U => a = #[(.ref a1)] ∧ Z.Warmed39 U.vm ∧ U.heap = h0) (fun _ _ _ _ _ => True) (fun _ U o U' => ∃ v L, o = .returned v ∧ Q11 Z a1 b1 k1 z1 xs cs h0 n0 v U'.heap L ∧ FrameEnd U o U' L ({ frames := 0, cells := 0, slots := 0, locals := 0 } : Room).cells ({ frames := 0, cells := 0, slots := 0, locals := 0 } : Room).slots) := by
  refine MetFree.of_bodySF (plainFor_of_name pn_String) hisR ?_
  intro p e s m args below meth c s₁ Bd hml0 hP hK
  obtain ⟨rfl, hZ, hh⟩ := hP
  have hx := Bd.exec
  have hby := Bd.bytes
  have hlk : meth.locks = false := BodyLoose.notSynchronized Bd
  have hml : c.maxLocals = 1 := hml0
  have hown : s.vm.findClass "java/lang/String" = some m.cls := findClass_of_methodNamed Bd.named
  have hnm := (name_of_methodNamed Bd.named Bd.method).1
  have X0 : Stand p l e ({ frames := 0, cells := 0, slots := 0, locals := 0 } : Room) s m #[(.ref a1)] below meth c s₁ [] 0 0 := Stand.of_body Bd
  have e0 : s₁.heap = h0 := by rw [← hh, Bd.state]; rfl
  have N0 := Fr.nil n0
  show Goes p e below s (Q11 Z a1 b1 k1 z1 xs cs h0 n0) ({ frames := 0, cells := 0, slots := 0, locals := 0 } : Room).cells ({ frames := 0, cells := 0, slots := 0, locals := 0 } : Room).slots (s₁.setTop (entryFrame m #[(.ref a1)] 1))
  refine Goes.enter (g' := (mkF m 0 #[.val (.ref a1)] [])) (ef_rm11 m a1) ?_
  obtain ⟨T1, X1, e1, st1⟩ := getS2 X0 hx hZ hown (host := "") (Or.inl (own_w18 hw)) Via.refl e0 Sc (g := (mkF m 0 #[.val (.ref a1)] [])) rfl (hb hby d11_0)
  refine Goes.step (B := T1.setTop (mkF m 3 #[.val (.ref a1)] [(.int cs)])) st1 ?_
  refine Goes.step (fun _ k => pw_ifNo X1.here hx (hb hby d11_3) ((if0 _ _).trans (feq hcs).1) _ (pw_aloadN X1.here hx (hb hby d11_6) rfl rfl _ k)) ?_
  obtain ⟨T2, X2, e2, st2⟩ := getF X1 hx hZ hown (host := "") (Or.inl (own_w30 hw)) Via.refl e1 Fc1 (g := (mkF m 7 #[.val (.ref a1)] [(.ref a1)])) rfl rfl (hb hby d11_7)
  refine Goes.step (B := T2.setTop (mkF m 10 #[.val (.ref a1)] [(.int 0)])) st2 ?_
  refine Goes.step (fun _ k => pw_goto X2.here hx (pc' := 14) (hb hby d11_10) (by decide) (by decide) _ k) ?_
  exact Goes.retN X2 hx e2 (t := .byte) Bd.returns (by simp) hlk (hb hby d11_14) (by decide) (by decide) (⟨rfl, N0, rfl⟩)
theorem d13_0 : decode jdk_42_method_154_code 0 = .ok (.getstatic 38, 3) := by decide +kernel
theorem d13_3 : decode jdk_42_method_154_code 3 = .ok (.ifCond .eq 14, 3) := by decide +kernel
theorem d13_6 : decode jdk_42_method_154_code 6 = .ok (.aload_n 0, 1) := by decide +kernel
theorem d13_7 : decode jdk_42_method_154_code 7 = .ok (.getfield 15, 3) := by decide +kernel
theorem d13_10 : decode jdk_42_method_154_code 10 = .ok (.ifCond .ne 7, 3) := by decide +kernel
theorem d13_13 : decode jdk_42_method_154_code 13 = .ok (.iconst 1, 1) := by decide +kernel
theorem d13_14 : decode jdk_42_method_154_code 14 = .ok (.goto 4, 3) := by decide +kernel
theorem d13_18 : decode jdk_42_method_154_code 18 = .ok (.ireturn, 1) := by decide +kernel
theorem ef_rm13 (m : MethodId) (x0 : Addr) : entryFrame m #[(.ref x0)] 1 = mkF m 0 #[.val (.ref x0)] [] := by first | (simp [entryFrame, mkF, argsToLocals, Value.category]; done) | rfl
def Q13 (Z : State) (a1 : Addr) (b1 : Addr) (k1 : ClassId) (z1 : Int32) (xs : List Int32) (cs : Int32) (h0 : Heap) (n0 : Nat) (v : Option Value) (h : Heap) (L : List Loc) : Prop := v = some (.int 1) ∧ Fr n0 L ∧ h = h0
set_option maxRecDepth 65536 in
set_option maxHeartbeats 40000000 in
theorem rm13 (l : Launch) (Z : State) (a0 : Array Value) (hw : ∀ d ∈ tables_1, d.before a0 Z = true) (ws : List Jvm.Cond) (a1 : Addr) (b1 : Addr) (k1 : ClassId) (z1 : Int32) (xs : List Int32) (cs : Int32) (h0 : Heap) (n0 : Nat) (O0 : Old Z n0 h0) (Sc : Sta Z h0 "java/lang/String" "COMPACT_STRINGS" "Z" (.int cs)) (hcs : ¬ cs = (0 : Int32)) (E1 : Exa Z h0 a1 "java/lang/String") (Fc1 : Fld Z h0 a1 "java/lang/String" "coder" "B" (.int (0 : Int32))) (Fv1 : Fld Z h0 a1 "java/lang/String" "value" "[B" (.ref b1)) (V1 : Arv Z h0 b1 k1 .byte z1 (xs.map Value.int) (.int (0 : Int32))) :
    MetFree l (⟨"java/lang/String", "isLatin1", "()Z"⟩ : MethodName) (head1 (Jvm.Cond.code (⟨"java/lang/String", "isLatin1", "()Z"⟩ : MethodName) jdk_42_method_154_code 1 (some .boolean) :: ws) ({ frames := 0, cells := 0, slots := 0, locals := 0 } : Room)) (fun a U => a = #[(.ref a1)] ∧ Z.Warmed39 U.vm ∧ U.heap = h0) (fun _ _ _ _ _ => True) (fun _ U o U' => ∃ v L, o = .returned v ∧ Q13 Z a1 b1 k1 z1 xs cs h0 n0 v U'.heap L ∧ FrameEnd U o U' L ({ frames := 0, cells := 0, slots := 0, locals := 0 } : Room).cells ({ frames := 0, cells := 0, slots := 0, locals := 0 } : Room).slots) := by
  refine MetFree.of_bodySF (plainFor_of_name pn_String) hisR ?_
  intro p e s m args below meth c s₁ Bd hml0 hP hK
  obtain ⟨rfl, hZ, hh⟩ := hP
  have hx := Bd.exec
  have hby := Bd.bytes
  have hlk : meth.locks = false := BodyLoose.notSynchronized Bd
  have hml : c.maxLocals = 1 := hml0
  have hown : s.vm.findClass "java/lang/String" = some m.cls := findClass_of_methodNamed Bd.named
  have hnm := (name_of_methodNamed Bd.named Bd.method).1
  have X0 : Stand p l e ({ frames := 0, cells := 0, slots := 0, locals := 0 } : Room) s m #[(.ref a1)] below meth c s₁ [] 0 0 := Stand.of_body Bd
  have e0 : s₁.heap = h0 := by rw [← hh, Bd.state]; rfl
  have N0 := Fr.nil n0
  show Goes p e below s (Q13 Z a1 b1 k1 z1 xs cs h0 n0) ({ frames := 0, cells := 0, slots := 0, locals := 0 } : Room).cells ({ frames := 0, cells := 0, slots := 0, locals := 0 } : Room).slots (s₁.setTop (entryFrame m #[(.ref a1)] 1))
  refine Goes.enter (g' := (mkF m 0 #[.val (.ref a1)] [])) (ef_rm13 m a1) ?_
  obtain ⟨T1, X1, e1, st1⟩ := getS2 X0 hx hZ hown (host := "") (Or.inl (own_w18 hw)) Via.refl e0 Sc (g := (mkF m 0 #[.val (.ref a1)] [])) rfl (hb hby d13_0)
  refine Goes.step (B := T1.setTop (mkF m 3 #[.val (.ref a1)] [(.int cs)])) st1 ?_
  refine Goes.step (fun _ k => pw_ifNo X1.here hx (hb hby d13_3) ((if0 _ _).trans (feq hcs).1) _ (pw_aloadN X1.here hx (hb hby d13_6) rfl rfl _ k)) ?_
  obtain ⟨T2, X2, e2, st2⟩ := getF X1 hx hZ hown (host := "") (Or.inl (own_w30 hw)) Via.refl e1 Fc1 (g := (mkF m 7 #[.val (.ref a1)] [(.ref a1)])) rfl rfl (hb hby d13_7)
  refine Goes.step (B := T2.setTop (mkF m 10 #[.val (.ref a1)] [(.int 0)])) st2 ?_
  refine Goes.step (fun _ k => pw_ifNo X2.here hx (hb hby d13_10) ((if0 _ _).trans (teq (by decide)).2) _ (pw_iconst X2.here hx (v := (1 : Int32)) (hb hby d13_13) rfl _ (pw_goto X2.here hx (pc' := 18) (hb hby d13_14) (by decide) (by decide) _ k))) ?_
  exact Goes.retN X2 hx e2 (t := .boolean) Bd.returns (by simp) hlk (hb hby d13_18) (by decide) (by decide) (⟨rfl, N0, rfl⟩)
theorem d10_0 : decode jdk_42_method_54_code 0 = .ok (.aload_n 0, 1) := by decide +kernel
theorem d10_1 : decode jdk_42_method_54_code 1 = .ok (.getfield 9, 3) := by decide +kernel
theorem d10_4 : decode jdk_42_method_54_code 4 = .ok (.arraylength, 1) := by decide +kernel
theorem d10_5 : decode jdk_42_method_54_code 5 = .ok (.aload_n 0, 1) := by decide +kernel
theorem d10_6 : decode jdk_42_method_54_code 6 = .ok (.invokevirtual 335, 3) := by decide +kernel
theorem own_w48 {Z : State} {a0 : Array Value} (hw : ∀ d ∈ tables_1, d.before a0 Z = true) : (Jvm.Cond.methodLink "java/lang/String" (335 : Nat) ({ cls := "java/lang/String", name := "coder", desc := "()B" } : Jvm.MethodName)).before a0 Z = true := hw _ (List.mem_of_getElem? (i := 48) rfl)
theorem own_w52 {Z : State} {a0 : Array Value} (hw : ∀ d ∈ tables_1, d.before a0 Z = true) : (Jvm.Cond.code ({ cls := "java/lang/String", name := "coder", desc := "()B" } : Jvm.MethodName) jdk_42_method_152_code (1 : Nat) (Option.some Jvm.ClassFile.FieldType.byte)).before a0 Z = true := hw _ (List.mem_of_getElem? (i := 52) rfl)
theorem pd_4 : parseMethodDescriptor "()B" = some ⟨[], some .byte⟩ := by decide +kernel
theorem own_w51 {Z : State} {a0 : Array Value} (hw : ∀ d ∈ tables_1, d.before a0 Z = true) : (Jvm.Cond.selects "java/lang/String" ({ cls := "java/lang/String", name := "coder", desc := "()B" } : Jvm.MethodName) ({ cls := "java/lang/String", name := "coder", desc := "()B" } : Jvm.MethodName)).before a0 Z = true := hw _ (List.mem_of_getElem? (i := 51) rfl)
theorem own_w49 {Z : State} {a0 : Array Value} (hw : ∀ d ∈ tables_1, d.before a0 Z = true) : (Jvm.Cond.declares ({ cls := "java/lang/String", name := "coder", desc := "()B" } : Jvm.MethodName)).before a0 Z = true := hw _ (List.mem_of_getElem? (i := 49) rfl)
theorem own_w50 {Z : State} {a0 : Array Value} (hw : ∀ d ∈ tables_1, d.before a0 Z = true) : (Jvm.Cond.instanceMethod ({ cls := "java/lang/String", name := "coder", desc := "()B" } : Jvm.MethodName)).before a0 Z = true := hw _ (List.mem_of_getElem? (i := 50) rfl)
theorem d10_9 : decode jdk_42_method_54_code 9 = .ok (.ishr, 1) := by decide +kernel
theorem d10_10 : decode jdk_42_method_54_code 10 = .ok (.ireturn, 1) := by decide +kernel
theorem ef_rm10 (m : MethodId) (x0 : Addr) : entryFrame m #[(.ref x0)] 1 = mkF m 0 #[.val (.ref x0)] [] := by first | (simp [entryFrame, mkF, argsToLocals, Value.category]; done) | rfl
def Q10 (Z : State) (a1 : Addr) (b1 : Addr) (k1 : ClassId) (z1 : Int32) (xs : List Int32) (cs : Int32) (h0 : Heap) (n0 : Nat) (v : Option Value) (h : Heap) (L : List Loc) : Prop := v = some (.int z1) ∧ Fr n0 L ∧ h = h0
set_option maxRecDepth 65536 in
set_option maxHeartbeats 40000000 in
theorem rm10 (l : Launch) (Z : State) (a0 : Array Value) (hw : ∀ d ∈ tables_1, d.before a0 Z = true) (ws : List Jvm.Cond) (a1 : Addr) (b1 : Addr) (k1 : ClassId) (z1 : Int32) (xs : List Int32) (cs : Int32) (h0 : Heap) (n0 : Nat) (O0 : Old Z n0 h0) (Sc : Sta Z h0 "java/lang/String" "COMPACT_STRINGS" "Z" (.int cs)) (hcs : ¬ cs = (0 : Int32)) (E1 : Exa Z h0 a1 "java/lang/String") (Fc1 : Fld Z h0 a1 "java/lang/String" "coder" "B" (.int (0 : Int32))) (Fv1 : Fld Z h0 a1 "java/lang/String" "value" "[B" (.ref b1)) (V1 : Arv Z h0 b1 k1 .byte z1 (xs.map Value.int) (.int (0 : Int32))) :
    MetFree l (⟨"java/lang/String", "length", "()I"⟩ : MethodName) (head1 (Jvm.Cond.code (⟨"java/lang/String", "length", "()I"⟩ : MethodName) jdk_42_method_54_code 1 (some .int) :: ws) ({ frames := 1, cells := 0, slots := 0, locals := 13 } : Room)) (fun a U => a = #[(.ref a1)] ∧ Z.Warmed39 U.vm ∧ U.heap = h0) (fun _ _ _ _ _ => True) (fun _ U o U' => ∃ v L, o = .returned v ∧ Q10 Z a1 b1 k1 z1 xs cs h0 n0 v U'.heap L ∧ FrameEnd U o U' L ({ frames := 1, cells := 0, slots := 0, locals := 13 } : Room).cells ({ frames := 1, cells := 0, slots := 0, locals := 13 } : Room).slots) := by
  refine MetFree.of_bodySF (plainFor_of_name pn_String) hisR ?_
  intro p e s m args below meth c s₁ Bd hml0 hP hK
  obtain ⟨rfl, hZ, hh⟩ := hP
  have hx := Bd.exec
  have hby := Bd.bytes
  have hlk : meth.locks = false := BodyLoose.notSynchronized Bd
  have hml : c.maxLocals = 1 := hml0
  have hown : s.vm.findClass "java/lang/String" = some m.cls := findClass_of_methodNamed Bd.named
  have hnm := (name_of_methodNamed Bd.named Bd.method).1
  have X0 : Stand p l e ({ frames := 1, cells := 0, slots := 0, locals := 13 } : Room) s m #[(.ref a1)] below meth c s₁ [] 0 0 := Stand.of_body Bd
  have e0 : s₁.heap = h0 := by rw [← hh, Bd.state]; rfl
  have N0 := Fr.nil n0
  show Goes p e below s (Q10 Z a1 b1 k1 z1 xs cs h0 n0) ({ frames := 1, cells := 0, slots := 0, locals := 13 } : Room).cells ({ frames := 1, cells := 0, slots := 0, locals := 13 } : Room).slots (s₁.setTop (entryFrame m #[(.ref a1)] 1))
  refine Goes.enter (g' := (mkF m 0 #[.val (.ref a1)] [])) (ef_rm10 m a1) ?_
  refine Goes.step (fun _ k => pw_aloadN X0.here hx (hb hby d10_0) rfl rfl _ k) ?_
  obtain ⟨T1, X1, e1, st1⟩ := getF X0 hx hZ hown (host := "") (Or.inl (own_w32 hw)) Via.refl e0 Fv1 (g := (mkF m 1 #[.val (.ref a1)] [(.ref a1)])) rfl rfl (hb hby d10_1)
  refine Goes.step (B := T1.setTop (mkF m 4 #[.val (.ref a1)] [(.ref b1)])) st1 ?_
  obtain ⟨c2, Ar2, -, Sz2, Nn2, -, -⟩ := id V1
  have len2 := X1.arraylength hx (by rw [e1]; exact Ar2.1) (State.isArrayOf_alike hZ.alike Ar2.2.1) (g := (mkF m 4 #[.val (.ref a1)] [(.ref b1)])) rfl rfl (hb hby d10_4)
  rw [len_of Sz2 Nn2] at len2
  refine Goes.step (B := T1.setTop (mkF m 5 #[.val (.ref a1)] [(.int z1)])) len2 ?_
  refine Goes.step (fun _ k => pw_aloadN X1.here hx (hb hby d10_5) rfl rfl _ k) ?_
  obtain ⟨cq3, kq3, qa3, qb3, qc3⟩ := isOf hZ e1 E1
  obtain ⟨_, _, ⟨T3, qL3, qk3, qn3⟩, -, X3, ⟨Lc3, hQ3, ql3, qy3, qz3⟩, st3⟩ := X1.virtualBack hx (y := (⟨"java/lang/String", "coder", "()B"⟩ : MethodName)) (z := (⟨"java/lang/String", "coder", "()B"⟩ : MethodName)) hown (mvT hZ (own_w48 hw)) (mvT hZ (own_w49 hw)) (notFace_of_selects (args := #[]) (mvT hZ (own_w51 hw))) (mvT hZ (own_w51 hw)) (mvT hZ (own_w50 hw)) (by decide) (backOf (W := 1) (rm11 l Z a0 hw [] a1 b1 k1 z1 xs cs h0 n0 O0 Sc hcs E1 Fc1 Fv1 V1) hZ (own_w52 hw) (own_w7 hw) (by decide) (by decide)) qa3 qc3 (g := (mkF m 6 #[.val (.ref a1)] [(.ref a1), (.int z1)])) rfl (by rw [hml]; rfl) (Steps.refl _) (argsL := []) (rest := [(.int z1)]) (lenOf pd_4 rfl) rfl (by show 2 * 0 + _ ≤ _; exact Nat.le_of_eq rfl) (hb hby d10_6) (fun _ _ => ⟨rfl, e1, (by decide : 0 + 0 ≤ _), (by decide : 0 + 0 ≤ _)⟩)
  dsimp only [Pt.U, Pt.locs, Pt.cells, Pt.slots] at X3 ql3 qy3 qz3 st3 hQ3
  rw [ql3, qy3, qz3] at X3
  obtain ⟨rfl, Nq3, eh3⟩ := hQ3
  have N3 := Fr.app N0 Nq3
  refine Goes.via (B := T3.setTop (mkF m 9 #[.val (.ref a1)] [(.int 0), (.int z1)])) st3 ?_
  refine Goes.step (B := T3.setTop (mkF m 10 #[.val (.ref a1)] [(.int (z1 >>> ((0 : Int32) &&& 31)))])) (fun _ k => XS.ishr X3.here hx rfl (hb hby d10_9) rfl k) ?_
  exact Goes.retI X3 hx eh3 Bd.returns hlk (hb hby d10_10) (by decide) (by decide) (⟨own_sh0 z1, N3, rfl⟩)
theorem d15_0 : decode jdk_43_method_4_code 0 = .ok (.iload_n 0, 1) := by decide +kernel
theorem d15_1 : decode jdk_43_method_4_code 1 = .ok (.ifCond .lt 14, 3) := by decide +kernel
theorem d15_4 : decode jdk_43_method_4_code 4 = .ok (.iload_n 0, 1) := by decide +kernel
theorem d15_5 : decode jdk_43_method_4_code 5 = .ok (.sipush 255, 3) := by decide +kernel
theorem d15_8 : decode jdk_43_method_4_code 8 = .ok (.if_icmp .gt 7, 3) := by decide +kernel
theorem d15_11 : decode jdk_43_method_4_code 11 = .ok (.iconst 1, 1) := by decide +kernel
theorem d15_12 : decode jdk_43_method_4_code 12 = .ok (.goto 4, 3) := by decide +kernel
theorem d15_16 : decode jdk_43_method_4_code 16 = .ok (.ireturn, 1) := by decide +kernel
theorem pn_StringLatin1 : plainName "java/lang/StringLatin1" = true := by first | (simp [plainName, overriddenIn]; done) | decide +kernel
theorem ef_rm15 (m : MethodId) (x0 : Int32) : entryFrame m #[(.int x0)] 1 = mkF m 0 #[.val (.int x0)] [] := by first | (simp [entryFrame, mkF, argsToLocals, Value.category]; done) | rfl
def Q15 (Z : State) (p1 : Int32) (h0 : Heap) (n0 : Nat) (v : Option Value) (h : Heap) (L : List Loc) : Prop := v = some (.int 1) ∧ Fr n0 L ∧ h = h0
set_option maxRecDepth 65536 in
set_option maxHeartbeats 40000000 in
theorem rm15 (l : Launch) (Z : State) (a0 : Array Value) (hw : ∀ d ∈ tables_1, d.before a0 Z = true) (ws : List Jvm.Cond) (p1 : Int32) (h0 : Heap) (n0 : Nat) (O0 : Old Z n0 h0) (hp0 : ¬ p1 < (0 : Int32)) (hp1 : ¬ (255 : Int32) < p1) :
    MetFree l (⟨"java/lang/StringLatin1", "canEncode", "(I)Z"⟩ : MethodName) (head1 (Jvm.Cond.code (⟨"java/lang/StringLatin1", "canEncode", "(I)Z"⟩ : MethodName) jdk_43_method_4_code 1 (some .boolean) :: ws) ({ frames := 0, cells := 0, slots := 0, locals := 0 } : Room)) (fun a U => a = #[(.int p1)] ∧ Z.Warmed39 U.vm ∧ U.heap = h0) (fun _ _ _ _ _ => True) (fun _ U o U' => ∃ v L, o = .returned v ∧ Q15 Z p1 h0 n0 v U'.heap L ∧ FrameEnd U o U' L ({ frames := 0, cells := 0, slots := 0, locals := 0 } : Room).cells ({ frames := 0, cells := 0, slots := 0, locals := 0 } : Room).slots) := by
  refine MetFree.of_bodySF (plainFor_of_name pn_StringLatin1) hisR ?_
  intro p e s m args below meth c s₁ Bd hml0 hP hK
  obtain ⟨rfl, hZ, hh⟩ := hP
  have hx := Bd.exec
  have hby := Bd.bytes
  have hlk : meth.locks = false := BodyLoose.notSynchronized Bd
  have hml : c.maxLocals = 1 := hml0
  have hown : s.vm.findClass "java/lang/StringLatin1" = some m.cls := findClass_of_methodNamed Bd.named
  have hnm := (name_of_methodNamed Bd.named Bd.method).1
  have X0 : Stand p l e ({ frames := 0, cells := 0, slots := 0, locals := 0 } : Room) s m #[(.int p1)] below meth c s₁ [] 0 0 := Stand.of_body Bd
  have e0 : s₁.heap = h0 := by rw [← hh, Bd.state]; rfl
  have N0 := Fr.nil n0
  show Goes p e below s (Q15 Z p1 h0 n0) ({ frames := 0, cells := 0, slots := 0, locals := 0 } : Room).cells ({ frames := 0, cells := 0, slots := 0, locals := 0 } : Room).slots (s₁.setTop (entryFrame m #[(.int p1)] 1))
  refine Goes.enter (g' := (mkF m 0 #[.val (.int p1)] [])) (ef_rm15 m p1) ?_
  refine Goes.step (fun _ k => pw_iloadN X0.here hx (hb hby d15_0) rfl _ (pw_ifNo X0.here hx (hb hby d15_1) ((if0 _ _).trans (flt hp0).1) _ (pw_iloadN X0.here hx (hb hby d15_4) rfl _ (pw_sipush X0.here hx (v := (255 : Int32)) (hb hby d15_5) rfl _ (pw_icmpNo X0.here hx (hb hby d15_8) (flt hp1).2.2.1 _ (pw_iconst X0.here hx (v := (1 : Int32)) (hb hby d15_11) rfl _ k)))))) ?_
  refine Goes.step (fun _ k => pw_goto X0.here hx (pc' := 16) (hb hby d15_12) (by decide) (by decide) _ k) ?_
  exact Goes.retN X0 hx e0 (t := .boolean) Bd.returns (by simp) hlk (hb hby d15_16) (by decide) (by decide) (⟨rfl, N0, rfl⟩)
theorem d16_0 : decode jdk_29_method_69_code 0 = .ok (.iload_n 0, 1) := by decide +kernel
theorem d16_1 : decode jdk_29_method_69_code 1 = .ok (.iload_n 1, 1) := by decide +kernel
theorem d16_2 : decode jdk_29_method_69_code 2 = .ok (.if_icmp .gt 7, 3) := by decide +kernel
theorem d16_9 : decode jdk_29_method_69_code 9 = .ok (.iload_n 1, 1) := by decide +kernel
theorem d16_10 : decode jdk_29_method_69_code 10 = .ok (.ireturn, 1) := by decide +kernel
theorem d16_5 : decode jdk_29_method_69_code 5 = .ok (.iload_n 0, 1) := by decide +kernel
theorem d16_6 : decode jdk_29_method_69_code 6 = .ok (.goto 4, 3) := by decide +kernel
theorem ef_rm16 (m : MethodId) (x0 : Int32) (x1 : Int32) : entryFrame m #[(.int x0), (.int x1)] 2 = mkF m 0 #[.val (.int x0), .val (.int x1)] [] := by first | (simp [entryFrame, mkF, argsToLocals, Value.category]; done) | rfl
def Q16 (Z : State) (p1 : Int32) (p2 : Int32) (h0 : Heap) (n0 : Nat) (v : Option Value) (h : Heap) (L : List Loc) : Prop := v = some (.int (own_min p1 p2)) ∧ Fr n0 L ∧ h = h0
set_option maxRecDepth 65536 in
set_option maxHeartbeats 40000000 in
theorem rm16 (l : Launch) (Z : State) (a0 : Array Value) (hw : ∀ d ∈ tables_1, d.before a0 Z = true) (ws : List Jvm.Cond) (p1 : Int32) (p2 : Int32) (h0 : Heap) (n0 : Nat) (O0 : Old Z n0 h0) :
    MetFree l (⟨"java/lang/Math", "min", "(II)I"⟩ : MethodName) (head1 (Jvm.Cond.code (⟨"java/lang/Math", "min", "(II)I"⟩ : MethodName) jdk_29_method_69_code 2 (some .int) :: ws) ({ frames := 0, cells := 0, slots := 0, locals := 0 } : Room)) (fun a U => a = #[(.int p1), (.int p2)] ∧ Z.Warmed39 U.vm ∧ U.heap = h0) (fun _ _ _ _ _ => True) (fun _ U o U' => ∃ v L, o = .returned v ∧ Q16 Z p1 p2 h0 n0 v U'.heap L ∧ FrameEnd U o U' L ({ frames := 0, cells := 0, slots := 0, locals := 0 } : Room).cells ({ frames := 0, cells := 0, slots := 0, locals := 0 } : Room).slots) := by
  refine MetFree.of_bodySF (Jvm.Free.JP.mathPlain rfl (by decide +kernel)) hisR ?_
  intro p e s m args below meth c s₁ Bd hml0 hP hK
  obtain ⟨rfl, hZ, hh⟩ := hP
  have hx := Bd.exec
  have hby := Bd.bytes
  have hlk : meth.locks = false := BodyLoose.notSynchronized Bd
  have hml : c.maxLocals = 2 := hml0
  have hown : s.vm.findClass "java/lang/Math" = some m.cls := findClass_of_methodNamed Bd.named
  have hnm := (name_of_methodNamed Bd.named Bd.method).1
  have X0 : Stand p l e ({ frames := 0, cells := 0, slots := 0, locals := 0 } : Room) s m #[(.int p1), (.int p2)] below meth c s₁ [] 0 0 := Stand.of_body Bd
  have e0 : s₁.heap = h0 := by rw [← hh, Bd.state]; rfl
  have N0 := Fr.nil n0
  show Goes p e below s (Q16 Z p1 p2 h0 n0) ({ frames := 0, cells := 0, slots := 0, locals := 0 } : Room).cells ({ frames := 0, cells := 0, slots := 0, locals := 0 } : Room).slots (s₁.setTop (entryFrame m #[(.int p1), (.int p2)] 2))
  refine Goes.enter (g' := (mkF m 0 #[.val (.int p1), .val (.int p2)] [])) (ef_rm16 m p1 p2) ?_
  refine Goes.step (fun _ k => pw_iloadN X0.here hx (hb hby d16_0) rfl _ (pw_iloadN X0.here hx (hb hby d16_1) rfl _ k)) ?_
  by_cases hc2_0 : p2 < p1
  · refine Goes.step (fun _ k => pw_icmpYes X0.here hx (pc' := 9) (hb hby d16_2) (tlt hc2_0).2.2.1 (by decide) (by decide) _ (pw_iloadN X0.here hx (hb hby d16_9) rfl _ k)) ?_
    exact Goes.retI X0 hx e0 Bd.returns hlk (hb hby d16_10) (by decide) (by decide) (⟨(by unfold own_min; rw [if_pos hc2_0]; try rfl), N0, rfl⟩)
  · refine Goes.step (fun _ k => pw_icmpNo X0.here hx (hb hby d16_2) (flt hc2_0).2.2.1 _ (pw_iloadN X0.here hx (hb hby d16_5) rfl _ (pw_goto X0.here hx (pc' := 10) (hb hby d16_6) (by decide) (by decide) _ k))) ?_
    exact Goes.retI X0 hx e0 Bd.returns hlk (hb hby d16_10) (by decide) (by decide) (⟨(by unfold own_min; rw [if_neg hc2_0]; try rfl), N0, rfl⟩)
theorem d32_0 : decode jdk_41_method_11_code 0 = .ok (.iload_n 0, 1) := by decide +kernel
theorem d32_1 : decode jdk_41_method_11_code 1 = .ok (.ifCond .lt 8, 3) := by decide +kernel
theorem d32_4 : decode jdk_41_method_11_code 4 = .ok (.iload_n 0, 1) := by decide +kernel
theorem d32_5 : decode jdk_41_method_11_code 5 = .ok (.iload_n 1, 1) := by decide +kernel
theorem d32_6 : decode jdk_41_method_11_code 6 = .ok (.if_icmp .lt 10, 3) := by decide +kernel
theorem d32_16 : decode jdk_41_method_11_code 16 = .ok (.iload_n 0, 1) := by decide +kernel
theorem d32_17 : decode jdk_41_method_11_code 17 = .ok (.ireturn, 1) := by decide +kernel
theorem pn_Preconditions : plainName "jdk/internal/util/Preconditions" = true := by first | (simp [plainName, overriddenIn]; done) | decide +kernel
theorem ef_rm32 (m : MethodId) (x0 : Int32) (x1 : Int32) (x2 : Value) (hx2 : x2.isRef = true) : entryFrame m #[(.int x0), (.int x1), x2] 3 = mkF m 0 #[.val (.int x0), .val (.int x1), .val x2] [] := by rcases own_refc hx2 with rfl | ⟨r2, rfl⟩ <;> first | (simp [entryFrame, mkF, argsToLocals, Value.category]; done) | rfl
def Q32 (Z : State) (ii : Int32) (nn : Int32) (fm : Value) (h0 : Heap) (n0 : Nat) (v : Option Value) (h : Heap) (L : List Loc) : Prop := v = some (.int ii) ∧ Fr n0 L ∧ h = h0
set_option maxRecDepth 65536 in
set_option maxHeartbeats 40000000 in
theorem rm32 (l : Launch) (Z : State) (a0 : Array Value) (hw : ∀ d ∈ tables_1, d.before a0 Z = true) (ws : List Jvm.Cond) (ii : Int32) (nn : Int32) (fm : Value) (h0 : Heap) (n0 : Nat) (O0 : Old Z n0 h0) (hi0 : ¬ ii < (0 : Int32)) (hi1 : ii < nn) (hfm : fm.isRef = true) :
    MetFree l (⟨"jdk/internal/util/Preconditions", "checkIndex", "(IILjava/util/function/BiFunction;)I"⟩ : MethodName) (head1 (Jvm.Cond.code (⟨"jdk/internal/util/Preconditions", "checkIndex", "(IILjava/util/function/BiFunction;)I"⟩ : MethodName) jdk_41_method_11_code 3 (some .int) :: ws) ({ frames := 0, cells := 0, slots := 0, locals := 0 } : Room)) (fun a U => a = #[(.int ii), (.int nn), fm] ∧ Z.Warmed39 U.vm ∧ U.heap = h0) (fun _ _ _ _ _ => True) (fun _ U o U' => ∃ v L, o = .returned v ∧ Q32 Z ii nn fm h0 n0 v U'.heap L ∧ FrameEnd U o U' L ({ frames := 0, cells := 0, slots := 0, locals := 0 } : Room).cells ({ frames := 0, cells := 0, slots := 0, locals := 0 } : Room).slots) := by
  refine MetFree.of_bodySF (plainFor_of_name pn_Preconditions) hisR ?_
  intro p e s m args below meth c s₁ Bd hml0 hP hK
  obtain ⟨rfl, hZ, hh⟩ := hP
  have hx := Bd.exec
  have hby := Bd.bytes
  have hlk : meth.locks = false := BodyLoose.notSynchronized Bd
  have hml : c.maxLocals = 3 := hml0
  have hown : s.vm.findClass "jdk/internal/util/Preconditions" = some m.cls := findClass_of_methodNamed Bd.named
  have hnm := (name_of_methodNamed Bd.named Bd.method).1
  have X0 : Stand p l e ({ frames := 0, cells := 0, slots := 0, locals := 0 } : Room) s m #[(.int ii), (.int nn), fm] below meth c s₁ [] 0 0 := Stand.of_body Bd
  have e0 : s₁.heap = h0 := by rw [← hh, Bd.state]; rfl
  have N0 := Fr.nil n0
  show Goes p e below s (Q32 Z ii nn fm h0 n0) ({ frames := 0, cells := 0, slots := 0, locals := 0 } : Room).cells ({ frames := 0, cells := 0, slots := 0, locals := 0 } : Room).slots (s₁.setTop (entryFrame m #[(.int ii), (.int nn), fm] 3))
  refine Goes.enter (g' := (mkF m 0 #[.val (.int ii), .val (.int nn), .val fm] [])) (ef_rm32 m ii nn fm hfm) ?_
  refine Goes.step (fun _ k => pw_iloadN X0.here hx (hb hby d32_0) rfl _ (pw_ifNo X0.here hx (hb hby d32_1) ((if0 _ _).trans (flt hi0).1) _ (pw_iloadN X0.here hx (hb hby d32_4) rfl _ (pw_iloadN X0.here hx (hb hby d32_5) rfl _ (pw_icmpYes X0.here hx (pc' := 16) (hb hby d32_6) (tlt hi1).1 (by decide) (by decide) _ (pw_iloadN X0.here hx (hb hby d32_16) rfl _ k)))))) ?_
  exact Goes.retI X0 hx e0 Bd.returns hlk (hb hby d32_17) (by decide) (by decide) (⟨rfl, N0, rfl⟩)
theorem d31_0 : decode jdk_42_method_155_code 0 = .ok (.iload_n 0, 1) := by decide +kernel
theorem d31_1 : decode jdk_42_method_155_code 1 = .ok (.iload_n 1, 1) := by decide +kernel
theorem d31_2 : decode jdk_42_method_155_code 2 = .ok (.getstatic 1053, 3) := by decide +kernel
theorem own_w90 {Z : State} {a0 : Array Value} (hw : ∀ d ∈ tables_1, d.before a0 Z = true) : (Jvm.Cond.fieldLink "java/lang/String" (1053 : Nat) "jdk/internal/util/Preconditions" "SIOOBE_FORMATTER" "Ljava/util/function/BiFunction;").before a0 Z = true := hw _ (List.mem_of_getElem? (i := 90) rfl)
theorem d31_5 : decode jdk_42_method_155_code 5 = .ok (.invokestatic 1059, 3) := by decide +kernel
theorem own_w135 {Z : State} {a0 : Array Value} (hw : ∀ d ∈ tables_1, d.before a0 Z = true) : (Jvm.Cond.methodLink "java/lang/String" (1059 : Nat) ({ cls := "jdk/internal/util/Preconditions", name := "checkIndex", desc := "(IILjava/util/function/BiFunction;)I" } : Jvm.MethodName)).before a0 Z = true := hw _ (List.mem_of_getElem? (i := 135) rfl)
theorem own_w137 {Z : State} {a0 : Array Value} (hw : ∀ d ∈ tables_1, d.before a0 Z = true) : (Jvm.Cond.code ({ cls := "jdk/internal/util/Preconditions", name := "checkIndex", desc := "(IILjava/util/function/BiFunction;)I" } : Jvm.MethodName) jdk_41_method_11_code (3 : Nat) (Option.some Jvm.ClassFile.FieldType.int)).before a0 Z = true := hw _ (List.mem_of_getElem? (i := 137) rfl)
theorem own_w91 {Z : State} {a0 : Array Value} (hw : ∀ d ∈ tables_1, d.before a0 Z = true) : (Jvm.Cond.initialized "jdk/internal/util/Preconditions").before a0 Z = true := hw _ (List.mem_of_getElem? (i := 91) rfl)
theorem pd_5 : parseMethodDescriptor "(IILjava/util/function/BiFunction;)I" = some ⟨[.int, .int, (.object "java/util/function/BiFunction")], some .int⟩ := by decide +kernel
theorem own_w136 {Z : State} {a0 : Array Value} (hw : ∀ d ∈ tables_1, d.before a0 Z = true) : (Jvm.Cond.static ({ cls := "jdk/internal/util/Preconditions", name := "checkIndex", desc := "(IILjava/util/function/BiFunction;)I" } : Jvm.MethodName)).before a0 Z = true := hw _ (List.mem_of_getElem? (i := 136) rfl)
theorem d31_8 : decode jdk_42_method_155_code 8 = .ok (.pop, 1) := by decide +kernel
theorem d31_9 : decode jdk_42_method_155_code 9 = .ok (.return_, 1) := by decide +kernel
theorem ef_rm31 (m : MethodId) (x0 : Int32) (x1 : Int32) : entryFrame m #[(.int x0), (.int x1)] 2 = mkF m 0 #[.val (.int x0), .val (.int x1)] [] := by first | (simp [entryFrame, mkF, argsToLocals, Value.category]; done) | rfl
def Q31 (Z : State) (ii : Int32) (nn : Int32) (cs : Int32) (fm : Value) (h0 : Heap) (n0 : Nat) (v : Option Value) (h : Heap) (L : List Loc) : Prop := v = none ∧ Fr n0 L ∧ h = h0
set_option maxRecDepth 65536 in
set_option maxHeartbeats 40000000 in
theorem rm31 (l : Launch) (Z : State) (a0 : Array Value) (hw : ∀ d ∈ tables_1, d.before a0 Z = true) (ws : List Jvm.Cond) (ii : Int32) (nn : Int32) (cs : Int32) (fm : Value) (h0 : Heap) (n0 : Nat) (O0 : Old Z n0 h0) (FS : OwnSt Z cs fm) (hi0 : ¬ ii < (0 : Int32)) (hi1 : ii < nn) :
    MetFree l (⟨"java/lang/String", "checkIndex", "(II)V"⟩ : MethodName) (head1 (Jvm.Cond.code (⟨"java/lang/String", "checkIndex", "(II)V"⟩ : MethodName) jdk_42_method_155_code 2 none :: ws) ({ frames := 1, cells := 0, slots := 0, locals := 14 } : Room)) (fun a U => a = #[(.int ii), (.int nn)] ∧ Z.Warmed39 U.vm ∧ U.heap = h0) (fun _ _ _ _ _ => True) (fun _ U o U' => ∃ v L, o = .returned v ∧ Q31 Z ii nn cs fm h0 n0 v U'.heap L ∧ FrameEnd U o U' L ({ frames := 1, cells := 0, slots := 0, locals := 14 } : Room).cells ({ frames := 1, cells := 0, slots := 0, locals := 14 } : Room).slots) := by
  refine MetFree.of_bodySF (plainFor_of_name pn_String) hisR ?_
  intro p e s m args below meth c s₁ Bd hml0 hP hK
  obtain ⟨rfl, hZ, hh⟩ := hP
  have hx := Bd.exec
  have hby := Bd.bytes
  have hlk : meth.locks = false := BodyLoose.notSynchronized Bd
  have hml : c.maxLocals = 2 := hml0
  have hown : s.vm.findClass "java/lang/String" = some m.cls := findClass_of_methodNamed Bd.named
  have hnm := (name_of_methodNamed Bd.named Bd.method).1
  have X0 : Stand p l e ({ frames := 1, cells := 0, slots := 0, locals := 14 } : Room) s m #[(.int ii), (.int nn)] below meth c s₁ [] 0 0 := Stand.of_body Bd
  have e0 : s₁.heap = h0 := by rw [← hh, Bd.state]; rfl
  have N0 := Fr.nil n0
  show Goes p e below s (Q31 Z ii nn cs fm h0 n0) ({ frames := 1, cells := 0, slots := 0, locals := 14 } : Room).cells ({ frames := 1, cells := 0, slots := 0, locals := 14 } : Room).slots (s₁.setTop (entryFrame m #[(.int ii), (.int nn)] 2))
  refine Goes.enter (g' := (mkF m 0 #[.val (.int ii), .val (.int nn)] [])) (ef_rm31 m ii nn) ?_
  have FS0 := FS
  obtain ⟨S_COMPACT_STRINGS, hcs, S_fm, hfm⟩ := FS0
  refine Goes.step (fun _ k => pw_iloadN X0.here hx (hb hby d31_0) rfl _ (pw_iloadN X0.here hx (hb hby d31_1) rfl _ k)) ?_
  have f1 := S_fm.ext O0.2
  obtain ⟨T2, X2, e2, st2⟩ := getS2 X0 hx hZ hown (host := "") (Or.inl (own_w90 hw)) Via.refl e0 f1 (g := (mkF m 2 #[.val (.int ii), .val (.int nn)] [(.int nn), (.int ii)])) rfl (hb hby d31_2)
  refine Goes.step (B := T2.setTop (mkF m 5 #[.val (.int ii), .val (.int nn)] [fm, (.int nn), (.int ii)])) st2 ?_
  obtain ⟨_, _, ⟨T3, qL3, qk3, qn3⟩, -, X3, ⟨Lc3, hQ3, ql3, qy3, qz3⟩, st3⟩ := Jvm.LawKit.callS X2 hx (y := (⟨"jdk/internal/util/Preconditions", "checkIndex", "(IILjava/util/function/BiFunction;)I"⟩ : MethodName)) hown (mvT hZ (own_w135 hw)) (mvT hZ (own_w136 hw)) (mvT hZ (own_w91 hw)) (mvT hZ (own_w137 hw)) (by decide) (backOf (W := 0) (rm32 l Z a0 hw [] ii nn fm h0 n0 O0 hi0 hi1 hfm) hZ (own_w137 hw) (own_w91 hw) (by decide) (by decide)) (g := (mkF m 5 #[.val (.int ii), .val (.int nn)] [fm, (.int nn), (.int ii)])) rfl (by rw [hml]; rfl) (argsL := [(.int ii), (.int nn), fm]) (rest := []) (lenOf pd_5 rfl) rfl (by show 2 * 0 + _ ≤ _; exact Nat.le_of_eq rfl) (hb hby d31_5) (fun _ _ => ⟨rfl, e2, (by decide : 0 + 0 ≤ _), (by decide : 0 + 0 ≤ _)⟩)
  dsimp only [Pt.U, Pt.locs, Pt.cells, Pt.slots] at X3 ql3 qy3 qz3 st3 hQ3
  rw [ql3, qy3, qz3] at X3
  obtain ⟨rfl, Nq3, eh3⟩ := hQ3
  have N3 := Fr.app N0 Nq3
  refine Goes.step (B := T3.setTop (mkF m 8 #[.val (.int ii), .val (.int nn)] [(.int ii)])) st3 ?_
  refine Goes.step (fun _ k => pw_pop X3.here hx (hb hby d31_8) rfl _ k) ?_
  exact Goes.retV X3 hx eh3 Bd.returns hlk (hb hby d31_9) (by decide) (by decide) (⟨rfl, N3, rfl⟩)
theorem d30_0 : decode jdk_43_method_2_code 0 = .ok (.iload_n 1, 1) := by decide +kernel
theorem d30_1 : decode jdk_43_method_2_code 1 = .ok (.aload_n 0, 1) := by decide +kernel
theorem d30_2 : decode jdk_43_method_2_code 2 = .ok (.arraylength, 1) := by decide +kernel
theorem d30_3 : decode jdk_43_method_2_code 3 = .ok (.invokestatic 9, 3) := by decide +kernel
theorem own_w132 {Z : State} {a0 : Array Value} (hw : ∀ d ∈ tables_1, d.before a0 Z = true) : (Jvm.Cond.methodLink "java/lang/StringLatin1" (9 : Nat) ({ cls := "java/lang/String", name := "checkIndex", desc := "(II)V" } : Jvm.MethodName)).before a0 Z = true := hw _ (List.mem_of_getElem? (i := 132) rfl)
theorem own_w134 {Z : State} {a0 : Array Value} (hw : ∀ d ∈ tables_1, d.before a0 Z = true) : (Jvm.Cond.code ({ cls := "java/lang/String", name := "checkIndex", desc := "(II)V" } : Jvm.MethodName) jdk_42_method_155_code (2 : Nat) (Option.none : Option Jvm.ClassFile.FieldType)).before a0 Z = true := hw _ (List.mem_of_getElem? (i := 134) rfl)
theorem pd_6 : parseMethodDescriptor "(II)V" = some ⟨[.int, .int], none⟩ := by decide +kernel
theorem own_w133 {Z : State} {a0 : Array Value} (hw : ∀ d ∈ tables_1, d.before a0 Z = true) : (Jvm.Cond.static ({ cls := "java/lang/String", name := "checkIndex", desc := "(II)V" } : Jvm.MethodName)).before a0 Z = true := hw _ (List.mem_of_getElem? (i := 133) rfl)
theorem d30_6 : decode jdk_43_method_2_code 6 = .ok (.aload_n 0, 1) := by decide +kernel
theorem d30_7 : decode jdk_43_method_2_code 7 = .ok (.iload_n 1, 1) := by decide +kernel
theorem d30_8 : decode jdk_43_method_2_code 8 = .ok (.baload, 1) := by decide +kernel
theorem d30_9 : decode jdk_43_method_2_code 9 = .ok (.sipush 255, 3) := by decide +kernel
theorem d30_12 : decode jdk_43_method_2_code 12 = .ok (.iand, 1) := by decide +kernel
theorem d30_13 : decode jdk_43_method_2_code 13 = .ok (.i2c, 1) := by decide +kernel
theorem d30_14 : decode jdk_43_method_2_code 14 = .ok (.ireturn, 1) := by decide +kernel
theorem ef_rm30 (m : MethodId) (x0 : Addr) (x1 : Int32) : entryFrame m #[(.ref x0), (.int x1)] 2 = mkF m 0 #[.val (.ref x0), .val (.int x1)] [] := by first | (simp [entryFrame, mkF, argsToLocals, Value.category]; done) | rfl
def Q30 (Z : State) (b1 : Addr) (k1 : ClassId) (z1 : Int32) (xs : List Int32) (ii : Int32) (cs : Int32) (fm : Value) (h0 : Heap) (n0 : Nat) (v : Option Value) (h : Heap) (L : List Loc) : Prop := v = some (.int (own_c (xs.getD ii.toNatClampNeg 0))) ∧ Fr n0 L ∧ h = h0
set_option maxRecDepth 65536 in
set_option maxHeartbeats 40000000 in
theorem rm30 (l : Launch) (Z : State) (a0 : Array Value) (hw : ∀ d ∈ tables_1, d.before a0 Z = true) (ws : List Jvm.Cond) (b1 : Addr) (k1 : ClassId) (z1 : Int32) (xs : List Int32) (ii : Int32) (cs : Int32) (fm : Value) (h0 : Heap) (n0 : Nat) (O0 : Old Z n0 h0) (FS : OwnSt Z cs fm) (V1 : Arv Z h0 b1 k1 .byte z1 (xs.map Value.int) (.int (0 : Int32))) (hi0 : ¬ ii < (0 : Int32)) (hi1 : ii < z1) :
    MetFree l (⟨"java/lang/StringLatin1", "charAt", "([BI)C"⟩ : MethodName) (head1 (Jvm.Cond.code (⟨"java/lang/StringLatin1", "charAt", "([BI)C"⟩ : MethodName) jdk_43_method_2_code 2 (some .char) :: ws) ({ frames := 2, cells := 0, slots := 0, locals := 27 } : Room)) (fun a U => a = #[(.ref b1), (.int ii)] ∧ Z.Warmed39 U.vm ∧ U.heap = h0) (fun _ _ _ _ _ => True) (fun _ U o U' => ∃ v L, o = .returned v ∧ Q30 Z b1 k1 z1 xs ii cs fm h0 n0 v U'.heap L ∧ FrameEnd U o U' L ({ frames := 2, cells := 0, slots := 0, locals := 27 } : Room).cells ({ frames := 2, cells := 0, slots := 0, locals := 27 } : Room).slots) := by
  refine MetFree.of_bodySF (plainFor_of_name pn_StringLatin1) hisR ?_
  intro p e s m args below meth c s₁ Bd hml0 hP hK
  obtain ⟨rfl, hZ, hh⟩ := hP
  have hx := Bd.exec
  have hby := Bd.bytes
  have hlk : meth.locks = false := BodyLoose.notSynchronized Bd
  have hml : c.maxLocals = 2 := hml0
  have hown : s.vm.findClass "java/lang/StringLatin1" = some m.cls := findClass_of_methodNamed Bd.named
  have hnm := (name_of_methodNamed Bd.named Bd.method).1
  have X0 : Stand p l e ({ frames := 2, cells := 0, slots := 0, locals := 27 } : Room) s m #[(.ref b1), (.int ii)] below meth c s₁ [] 0 0 := Stand.of_body Bd
  have e0 : s₁.heap = h0 := by rw [← hh, Bd.state]; rfl
  have N0 := Fr.nil n0
  show Goes p e below s (Q30 Z b1 k1 z1 xs ii cs fm h0 n0) ({ frames := 2, cells := 0, slots := 0, locals := 27 } : Room).cells ({ frames := 2, cells := 0, slots := 0, locals := 27 } : Room).slots (s₁.setTop (entryFrame m #[(.ref b1), (.int ii)] 2))
  refine Goes.enter (g' := (mkF m 0 #[.val (.ref b1), .val (.int ii)] [])) (ef_rm30 m b1 ii) ?_
  have FS0 := FS
  obtain ⟨S_COMPACT_STRINGS, hcs, S_fm, hfm⟩ := FS0
  refine Goes.step (fun _ k => pw_iloadN X0.here hx (hb hby d30_0) rfl _ (pw_aloadN X0.here hx (hb hby d30_1) rfl rfl _ k)) ?_
  obtain ⟨c1, Ar1, -, Sz1, Nn1, -, -⟩ := id V1
  have len1 := X0.arraylength hx (by rw [e0]; exact Ar1.1) (State.isArrayOf_alike hZ.alike Ar1.2.1) (g := (mkF m 2 #[.val (.ref b1), .val (.int ii)] [(.ref b1), (.int ii)])) rfl rfl (hb hby d30_2)
  rw [len_of Sz1 Nn1] at len1
  refine Goes.step (B := s₁.setTop (mkF m 3 #[.val (.ref b1), .val (.int ii)] [(.int z1), (.int ii)])) len1 ?_
  obtain ⟨_, _, ⟨T2, qL2, qk2, qn2⟩, -, X2, ⟨Lc2, hQ2, ql2, qy2, qz2⟩, st2⟩ := Jvm.LawKit.callS X0 hx (y := (⟨"java/lang/String", "checkIndex", "(II)V"⟩ : MethodName)) hown (mvT hZ (own_w132 hw)) (mvT hZ (own_w133 hw)) (mvT hZ (own_w7 hw)) (mvT hZ (own_w134 hw)) (by decide) (backOf (W := 0) (rm31 l Z a0 hw [] ii z1 cs fm h0 n0 O0 FS hi0 hi1) hZ (own_w134 hw) (own_w7 hw) (by decide) (by decide)) (g := (mkF m 3 #[.val (.ref b1), .val (.int ii)] [(.int z1), (.int ii)])) rfl (by rw [hml]; rfl) (argsL := [(.int ii), (.int z1)]) (rest := []) (lenOf pd_6 rfl) rfl (by show 2 * 0 + _ ≤ _; exact Nat.le_of_eq rfl) (hb hby d30_3) (fun _ _ => ⟨rfl, e0, (by decide : 0 + 0 ≤ _), (by decide : 0 + 0 ≤ _)⟩)
  dsimp only [Pt.U, Pt.locs, Pt.cells, Pt.slots] at X2 ql2 qy2 qz2 st2 hQ2
  rw [ql2, qy2, qz2] at X2
  obtain ⟨rfl, Nq2, eh2⟩ := hQ2
  have N2 := Fr.app N0 Nq2
  refine Goes.step (B := T2.setTop (mkF m 6 #[.val (.ref b1), .val (.int ii)] [])) st2 ?_
  refine Goes.step (fun _ k => pw_aloadN X2.here hx (hb hby d30_6) rfl rfl _ (pw_iloadN X2.here hx (hb hby d30_7) rfl _ k)) ?_
  obtain ⟨c3, Ar3, -, Sz3, Nn3, Hs3, -⟩ := id V1
  have hin3 : ¬ (ii < 0 ∨ c3.slots.size ≤ (ii).toNatClampNeg) := inb_of Sz3 ⟨hi0, hi1⟩
  refine Goes.step (B := T2.setTop (mkF m 9 #[.val (.ref b1), .val (.int ii)] [(.int (xs.getD ii.toNatClampNeg 0))])) (X2.baloadBytes hx (j := ii) (v := (.int (xs.getD ii.toNatClampNeg 0))) (by rw [eh2]; exact Ar3.1) (State.isArrayOf_alike hZ.alike Ar3.2.1) Ar3.2.2 hin3 (Has.at Hs3 hin3 (own_getD xs _)) (g := (mkF m 8 #[.val (.ref b1), .val (.int ii)] [(.int ii), (.ref b1)])) rfl rfl (hb hby d30_8)) ?_
  refine Goes.step (fun _ k => pw_sipush X2.here hx (v := (255 : Int32)) (hb hby d30_9) rfl _ (pw_iand X2.here hx (hb hby d30_12) _ k)) ?_
  refine Goes.step (B := T2.setTop (mkF m 14 #[.val (.ref b1), .val (.int ii)] [(.int ((xs.getD ii.toNatClampNeg 0) &&& (255 : Int32)).toUInt32.toUInt16.toUInt32.toInt32)])) (fun _ k => XS.i2c X2.here hx rfl (hb hby d30_13) rfl k) ?_
  exact Goes.retN X2 hx eh2 (t := .char) Bd.returns (by simp) hlk (hb hby d30_14) (by decide) (by decide) (⟨own_ncS _, N2, rfl⟩)
theorem d29_0 : decode jdk_42_method_56_code 0 = .ok (.aload_n 0, 1) := by decide +kernel
theorem d29_1 : decode jdk_42_method_56_code 1 = .ok (.invokevirtual 492, 3) := by decide +kernel
theorem own_w58 {Z : State} {a0 : Array Value} (hw : ∀ d ∈ tables_1, d.before a0 Z = true) : (Jvm.Cond.methodLink "java/lang/String" (492 : Nat) ({ cls := "java/lang/String", name := "isLatin1", desc := "()Z" } : Jvm.MethodName)).before a0 Z = true := hw _ (List.mem_of_getElem? (i := 58) rfl)
theorem own_w62 {Z : State} {a0 : Array Value} (hw : ∀ d ∈ tables_1, d.before a0 Z = true) : (Jvm.Cond.code ({ cls := "java/lang/String", name := "isLatin1", desc := "()Z" } : Jvm.MethodName) jdk_42_method_154_code (1 : Nat) (Option.some Jvm.ClassFile.FieldType.boolean)).before a0 Z = true := hw _ (List.mem_of_getElem? (i := 62) rfl)
theorem pd_7 : parseMethodDescriptor "()Z" = some ⟨[], some .boolean⟩ := by decide +kernel
theorem own_w61 {Z : State} {a0 : Array Value} (hw : ∀ d ∈ tables_1, d.before a0 Z = true) : (Jvm.Cond.selects "java/lang/String" ({ cls := "java/lang/String", name := "isLatin1", desc := "()Z" } : Jvm.MethodName) ({ cls := "java/lang/String", name := "isLatin1", desc := "()Z" } : Jvm.MethodName)).before a0 Z = true := hw _ (List.mem_of_getElem? (i := 61) rfl)
theorem own_w59 {Z : State} {a0 : Array Value} (hw : ∀ d ∈ tables_1, d.before a0 Z = true) : (Jvm.Cond.declares ({ cls := "java/lang/String", name := "isLatin1", desc := "()Z" } : Jvm.MethodName)).before a0 Z = true := hw _ (List.mem_of_getElem? (i := 59) rfl)
theorem own_w60 {Z : State} {a0 : Array Value} (hw : ∀ d ∈ tables_1, d.before a0 Z = true) : (Jvm.Cond.instanceMethod ({ cls := "java/lang/String", name := "isLatin1", desc := "()Z" } : Jvm.MethodName)).before a0 Z = true := hw _ (List.mem_of_getElem? (i := 60) rfl)
theorem d29_4 : decode jdk_42_method_56_code 4 = .ok (.ifCond .eq 12, 3) := by decide +kernel
theorem d29_7 : decode jdk_42_method_56_code 7 = .ok (.aload_n 0, 1) := by decide +kernel
theorem d29_8 : decode jdk_42_method_56_code 8 = .ok (.getfield 9, 3) := by decide +kernel
theorem d29_11 : decode jdk_42_method_56_code 11 = .ok (.iload_n 1, 1) := by decide +kernel
theorem d29_12 : decode jdk_42_method_56_code 12 = .ok (.invokestatic 495, 3) := by decide +kernel
theorem own_w129 {Z : State} {a0 : Array Value} (hw : ∀ d ∈ tables_1, d.before a0 Z = true) : (Jvm.Cond.methodLink "java/lang/String" (495 : Nat) ({ cls := "java/lang/StringLatin1", name := "charAt", desc := "([BI)C" } : Jvm.MethodName)).before a0 Z = true := hw _ (List.mem_of_getElem? (i := 129) rfl)
theorem own_w131 {Z : State} {a0 : Array Value} (hw : ∀ d ∈ tables_1, d.before a0 Z = true) : (Jvm.Cond.code ({ cls := "java/lang/StringLatin1", name := "charAt", desc := "([BI)C" } : Jvm.MethodName) jdk_43_method_2_code (2 : Nat) (Option.some Jvm.ClassFile.FieldType.char)).before a0 Z = true := hw _ (List.mem_of_getElem? (i := 131) rfl)
theorem own_w65 {Z : State} {a0 : Array Value} (hw : ∀ d ∈ tables_1, d.before a0 Z = true) : (Jvm.Cond.initialized "java/lang/StringLatin1").before a0 Z = true := hw _ (List.mem_of_getElem? (i := 65) rfl)
theorem pd_8 : parseMethodDescriptor "([BI)C" = some ⟨[(.array .byte), .int], some .char⟩ := by decide +kernel
theorem own_w130 {Z : State} {a0 : Array Value} (hw : ∀ d ∈ tables_1, d.before a0 Z = true) : (Jvm.Cond.static ({ cls := "java/lang/StringLatin1", name := "charAt", desc := "([BI)C" } : Jvm.MethodName)).before a0 Z = true := hw _ (List.mem_of_getElem? (i := 130) rfl)
theorem d29_15 : decode jdk_42_method_56_code 15 = .ok (.ireturn, 1) := by decide +kernel
theorem ef_rm29 (m : MethodId) (x0 : Addr) (x1 : Int32) : entryFrame m #[(.ref x0), (.int x1)] 2 = mkF m 0 #[.val (.ref x0), .val (.int x1)] [] := by first | (simp [entryFrame, mkF, argsToLocals, Value.category]; done) | rfl
def Q29 (Z : State) (a1 : Addr) (b1 : Addr) (k1 : ClassId) (z1 : Int32) (xs : List Int32) (ii : Int32) (cs : Int32) (fm : Value) (h0 : Heap) (n0 : Nat) (v : Option Value) (h : Heap) (L : List Loc) : Prop := v = some (.int (own_c (xs.getD ii.toNatClampNeg 0))) ∧ Fr n0 L ∧ h = h0
set_option maxRecDepth 65536 in
set_option maxHeartbeats 40000000 in
theorem rm29 (l : Launch) (Z : State) (a0 : Array Value) (hw : ∀ d ∈ tables_1, d.before a0 Z = true) (ws : List Jvm.Cond) (a1 : Addr) (b1 : Addr) (k1 : ClassId) (z1 : Int32) (xs : List Int32) (ii : Int32) (cs : Int32) (fm : Value) (h0 : Heap) (n0 : Nat) (O0 : Old Z n0 h0) (FS : OwnSt Z cs fm) (E1 : Exa Z h0 a1 "java/lang/String") (Fc1 : Fld Z h0 a1 "java/lang/String" "coder" "B" (.int (0 : Int32))) (Fv1 : Fld Z h0 a1 "java/lang/String" "value" "[B" (.ref b1)) (V1 : Arv Z h0 b1 k1 .byte z1 (xs.map Value.int) (.int (0 : Int32))) (hi0 : ¬ ii < (0 : Int32)) (hi1 : ii < z1) :
    MetFree l (⟨"java/lang/String", "charAt", "(I)C"⟩ : MethodName) (head1 (Jvm.Cond.code (⟨"java/lang/String", "charAt", "(I)C"⟩ : MethodName) jdk_42_method_56_code 2 (some .char) :: ws) ({ frames := 3, cells := 0, slots := 0, locals := 40 } : Room)) (fun a U => a = #[(.ref a1), (.int ii)] ∧ Z.Warmed39 U.vm ∧ U.heap = h0) (fun _ _ _ _ _ => True) (fun _ U o U' => ∃ v L, o = .returned v ∧ Q29 Z a1 b1 k1 z1 xs ii cs fm h0 n0 v U'.heap L ∧ FrameEnd U o U' L ({ frames := 3, cells := 0, slots := 0, locals := 40 } : Room).cells ({ frames := 3, cells := 0, slots := 0, locals := 40 } : Room).slots) := by
  refine MetFree.of_bodySF (plainFor_of_name pn_String) hisR ?_
  intro p e s m args below meth c s₁ Bd hml0 hP hK
  obtain ⟨rfl, hZ, hh⟩ := hP
  have hx := Bd.exec
  have hby := Bd.bytes
  have hlk : meth.locks = false := BodyLoose.notSynchronized Bd
  have hml : c.maxLocals = 2 := hml0
  have hown : s.vm.findClass "java/lang/String" = some m.cls := findClass_of_methodNamed Bd.named
  have hnm := (name_of_methodNamed Bd.named Bd.method).1
  have X0 : Stand p l e ({ frames := 3, cells := 0, slots := 0, locals := 40 } : Room) s m #[(.ref a1), (.int ii)] below meth c s₁ [] 0 0 := Stand.of_body Bd
  have e0 : s₁.heap = h0 := by rw [← hh, Bd.state]; rfl
  have N0 := Fr.nil n0
  show Goes p e below s (Q29 Z a1 b1 k1 z1 xs ii cs fm h0 n0) ({ frames := 3, cells := 0, slots := 0, locals := 40 } : Room).cells ({ frames := 3, cells := 0, slots := 0, locals := 40 } : Room).slots (s₁.setTop (entryFrame m #[(.ref a1), (.int ii)] 2))
  refine Goes.enter (g' := (mkF m 0 #[.val (.ref a1), .val (.int ii)] [])) (ef_rm29 m a1 ii) ?_
  have FS0 := FS
  obtain ⟨S_COMPACT_STRINGS, hcs, S_fm, hfm⟩ := FS0
  refine Goes.step (fun _ k => pw_aloadN X0.here hx (hb hby d29_0) rfl rfl _ k) ?_
  have f2 := S_COMPACT_STRINGS.ext O0.2
  obtain ⟨cq1, kq1, qa1, qb1, qc1⟩ := isOf hZ e0 E1
  obtain ⟨_, _, ⟨T1, qL1, qk1, qn1⟩, -, X1, ⟨Lc1, hQ1, ql1, qy1, qz1⟩, st1⟩ := X0.virtualBack hx (y := (⟨"java/lang/String", "isLatin1", "()Z"⟩ : MethodName)) (z := (⟨"java/lang/String", "isLatin1", "()Z"⟩ : MethodName)) hown (mvT hZ (own_w58 hw)) (mvT hZ (own_w59 hw)) (notFace_of_selects (args := #[]) (mvT hZ (own_w61 hw))) (mvT hZ (own_w61 hw)) (mvT hZ (own_w60 hw)) (by decide) (backOf (W := 0) (rm13 l Z a0 hw [] a1 b1 k1 z1 xs cs h0 n0 O0 f2 hcs E1 Fc1 Fv1 V1) hZ (own_w62 hw) (own_w7 hw) (by decide) (by decide)) qa1 qc1 (g := (mkF m 1 #[.val (.ref a1), .val (.int ii)] [(.ref a1)])) rfl (by rw [hml]; rfl) (Steps.refl _) (argsL := []) (rest := []) (lenOf pd_7 rfl) rfl (by show 2 * 0 + _ ≤ _; exact Nat.le_of_eq rfl) (hb hby d29_1) (fun _ _ => ⟨rfl, e0, (by decide : 0 + 0 ≤ _), (by decide : 0 + 0 ≤ _)⟩)
  dsimp only [Pt.U, Pt.locs, Pt.cells, Pt.slots] at X1 ql1 qy1 qz1 st1 hQ1
  rw [ql1, qy1, qz1] at X1
  obtain ⟨rfl, Nq1, eh1⟩ := hQ1
  have N1 := Fr.app N0 Nq1
  refine Goes.via (B := T1.setTop (mkF m 4 #[.val (.ref a1), .val (.int ii)] [(.int 1)])) st1 ?_
  refine Goes.step (fun _ k => pw_ifNo X1.here hx (hb hby d29_4) ((if0 _ _).trans (feq (by decide)).1) _ (pw_aloadN X1.here hx (hb hby d29_7) rfl rfl _ k)) ?_
  obtain ⟨T3, X3, e3, st3⟩ := getF X1 hx hZ hown (host := "") (Or.inl (own_w32 hw)) Via.refl eh1 Fv1 (g := (mkF m 8 #[.val (.ref a1), .val (.int ii)] [(.ref a1)])) rfl rfl (hb hby d29_8)
  refine Goes.step (B := T3.setTop (mkF m 11 #[.val (.ref a1), .val (.int ii)] [(.ref b1)])) st3 ?_
  refine Goes.step (fun _ k => pw_iloadN X3.here hx (hb hby d29_11) rfl _ k) ?_
  obtain ⟨_, _, ⟨T4, qL4, qk4, qn4⟩, -, X4, ⟨Lc4, hQ4, ql4, qy4, qz4⟩, st4⟩ := Jvm.LawKit.callS X3 hx (y := (⟨"java/lang/StringLatin1", "charAt", "([BI)C"⟩ : MethodName)) hown (mvT hZ (own_w129 hw)) (mvT hZ (own_w130 hw)) (mvT hZ (own_w65 hw)) (mvT hZ (own_w131 hw)) (by decide) (backOf (W := 0) (rm30 l Z a0 hw [] b1 k1 z1 xs ii cs fm h0 n0 O0 FS V1 hi0 hi1) hZ (own_w131 hw) (own_w65 hw) (by decide) (by decide)) (g := (mkF m 12 #[.val (.ref a1), .val (.int ii)] [(.int ii), (.ref b1)])) rfl (by rw [hml]; rfl) (argsL := [(.ref b1), (.int ii)]) (rest := []) (lenOf pd_8 rfl) rfl (by show 2 * 0 + _ ≤ _; exact Nat.le_of_eq rfl) (hb hby d29_12) (fun _ _ => ⟨rfl, e3, (by decide : 0 + 0 ≤ _), (by decide : 0 + 0 ≤ _)⟩)
  dsimp only [Pt.U, Pt.locs, Pt.cells, Pt.slots] at X4 ql4 qy4 qz4 st4 hQ4
  rw [ql4, qy4, qz4] at X4
  obtain ⟨rfl, Nq4, eh4⟩ := hQ4
  have N4 := Fr.app N1 Nq4
  refine Goes.step (B := T4.setTop (mkF m 15 #[.val (.ref a1), .val (.int ii)] [(.int (own_c (xs.getD ii.toNatClampNeg 0)))])) st4 ?_
  exact Goes.retN X4 hx eh4 (t := .char) Bd.returns (by simp) hlk (hb hby d29_15) (by decide) (by decide) (⟨own_nc2 _, N4, rfl⟩)
theorem d21_0 : decode jdk_41_method_12_code 0 = .ok (.iload_n 0, 1) := by decide +kernel
theorem d21_1 : decode jdk_41_method_12_code 1 = .ok (.ifCond .lt 13, 3) := by decide +kernel
theorem d21_4 : decode jdk_41_method_12_code 4 = .ok (.iload_n 0, 1) := by decide +kernel
theorem d21_5 : decode jdk_41_method_12_code 5 = .ok (.iload_n 1, 1) := by decide +kernel
theorem d21_6 : decode jdk_41_method_12_code 6 = .ok (.if_icmp .gt 8, 3) := by decide +kernel
theorem d21_9 : decode jdk_41_method_12_code 9 = .ok (.iload_n 1, 1) := by decide +kernel
theorem d21_10 : decode jdk_41_method_12_code 10 = .ok (.iload_n 2, 1) := by decide +kernel
theorem d21_11 : decode jdk_41_method_12_code 11 = .ok (.if_icmp .le 11, 3) := by decide +kernel
theorem d21_22 : decode jdk_41_method_12_code 22 = .ok (.iload_n 0, 1) := by decide +kernel
theorem d21_23 : decode jdk_41_method_12_code 23 = .ok (.ireturn, 1) := by decide +kernel
theorem ef_rm21 (m : MethodId) (x0 : Int32) (x1 : Int32) (x2 : Int32) (x3 : Value) (hx3 : x3.isRef = true) : entryFrame m #[(.int x0), (.int x1), (.int x2), x3] 4 = mkF m 0 #[.val (.int x0), .val (.int x1), .val (.int x2), .val x3] [] := by rcases own_refc hx3 with rfl | ⟨r3, rfl⟩ <;> first | (simp [entryFrame, mkF, argsToLocals, Value.category]; done) | rfl
def Q21 (Z : State) (bb : Int32) (ee : Int32) (zz : Int32) (fm : Value) (h0 : Heap) (n0 : Nat) (v : Option Value) (h : Heap) (L : List Loc) : Prop := v = some (.int bb) ∧ Fr n0 L ∧ h = h0
set_option maxRecDepth 65536 in
set_option maxHeartbeats 40000000 in
theorem rm21 (l : Launch) (Z : State) (a0 : Array Value) (hw : ∀ d ∈ tables_1, d.before a0 Z = true) (ws : List Jvm.Cond) (bb : Int32) (ee : Int32) (zz : Int32) (fm : Value) (h0 : Heap) (n0 : Nat) (O0 : Old Z n0 h0) (hb0 : 0 ≤ bb.toInt) (hbe : bb.toInt ≤ ee.toInt) (hez : ee.toInt ≤ zz.toInt) (hfm : fm.isRef = true) :
    MetFree l (⟨"jdk/internal/util/Preconditions", "checkFromToIndex", "(IIILjava/util/function/BiFunction;)I"⟩ : MethodName) (head1 (Jvm.Cond.code (⟨"jdk/internal/util/Preconditions", "checkFromToIndex", "(IIILjava/util/function/BiFunction;)I"⟩ : MethodName) jdk_41_method_12_code 4 (some .int) :: ws) ({ frames := 0, cells := 0, slots := 0, locals := 0 } : Room)) (fun a U => a = #[(.int bb), (.int ee), (.int zz), fm] ∧ Z.Warmed39 U.vm ∧ U.heap = h0) (fun _ _ _ _ _ => True) (fun _ U o U' => ∃ v L, o = .returned v ∧ Q21 Z bb ee zz fm h0 n0 v U'.heap L ∧ FrameEnd U o U' L ({ frames := 0, cells := 0, slots := 0, locals := 0 } : Room).cells ({ frames := 0, cells := 0, slots := 0, locals := 0 } : Room).slots) := by
  refine MetFree.of_bodySF (plainFor_of_name pn_Preconditions) hisR ?_
  intro p e s m args below meth c s₁ Bd hml0 hP hK
  obtain ⟨rfl, hZ, hh⟩ := hP
  have hx := Bd.exec
  have hby := Bd.bytes
  have hlk : meth.locks = false := BodyLoose.notSynchronized Bd
  have hml : c.maxLocals = 4 := hml0
  have hown : s.vm.findClass "jdk/internal/util/Preconditions" = some m.cls := findClass_of_methodNamed Bd.named
  have hnm := (name_of_methodNamed Bd.named Bd.method).1
  have X0 : Stand p l e ({ frames := 0, cells := 0, slots := 0, locals := 0 } : Room) s m #[(.int bb), (.int ee), (.int zz), fm] below meth c s₁ [] 0 0 := Stand.of_body Bd
  have e0 : s₁.heap = h0 := by rw [← hh, Bd.state]; rfl
  have N0 := Fr.nil n0
  show Goes p e below s (Q21 Z bb ee zz fm h0 n0) ({ frames := 0, cells := 0, slots := 0, locals := 0 } : Room).cells ({ frames := 0, cells := 0, slots := 0, locals := 0 } : Room).slots (s₁.setTop (entryFrame m #[(.int bb), (.int ee), (.int zz), fm] 4))
  refine Goes.enter (g' := (mkF m 0 #[.val (.int bb), .val (.int ee), .val (.int zz), .val fm] [])) (ef_rm21 m bb ee zz fm hfm) ?_
  refine Goes.step (fun _ k => pw_iloadN X0.here hx (hb hby d21_0) rfl _ (pw_ifNo X0.here hx (hb hby d21_1) ((if0 _ _).trans (flt (own_nlt (by rw [own_i0]; exact hb0))).1) _ (pw_iloadN X0.here hx (hb hby d21_4) rfl _ (pw_iloadN X0.here hx (hb hby d21_5) rfl _ (pw_icmpNo X0.here hx (hb hby d21_6) (flt (own_nlt hbe)).2.2.1 _ (pw_iloadN X0.here hx (hb hby d21_9) rfl _ k)))))) ?_
  refine Goes.step (fun _ k => pw_iloadN X0.here hx (hb hby d21_10) rfl _ (pw_icmpYes X0.here hx (pc' := 22) (hb hby d21_11) (flt (own_nlt hez)).2.2.2 (by decide) (by decide) _ (pw_iloadN X0.here hx (hb hby d21_22) rfl _ k))) ?_
  exact Goes.retI X0 hx e0 Bd.returns hlk (hb hby d21_23) (by decide) (by decide) (⟨rfl, N0, rfl⟩)
theorem d20_0 : decode jdk_42_method_158_code 0 = .ok (.iload_n 0, 1) := by decide +kernel
theorem d20_1 : decode jdk_42_method_158_code 1 = .ok (.iload_n 1, 1) := by decide +kernel
theorem d20_2 : decode jdk_42_method_158_code 2 = .ok (.iload_n 2, 1) := by decide +kernel
theorem d20_3 : decode jdk_42_method_158_code 3 = .ok (.getstatic 1053, 3) := by decide +kernel
theorem d20_6 : decode jdk_42_method_158_code 6 = .ok (.invokestatic 1062, 3) := by decide +kernel
theorem own_w92 {Z : State} {a0 : Array Value} (hw : ∀ d ∈ tables_1, d.before a0 Z = true) : (Jvm.Cond.methodLink "java/lang/String" (1062 : Nat) ({ cls := "jdk/internal/util/Preconditions", name := "checkFromToIndex", desc := "(IIILjava/util/function/BiFunction;)I" } : Jvm.MethodName)).before a0 Z = true := hw _ (List.mem_of_getElem? (i := 92) rfl)
theorem own_w94 {Z : State} {a0 : Array Value} (hw : ∀ d ∈ tables_1, d.before a0 Z = true) : (Jvm.Cond.code ({ cls := "jdk/internal/util/Preconditions", name := "checkFromToIndex", desc := "(IIILjava/util/function/BiFunction;)I" } : Jvm.MethodName) jdk_41_method_12_code (4 : Nat) (Option.some Jvm.ClassFile.FieldType.int)).before a0 Z = true := hw _ (List.mem_of_getElem? (i := 94) rfl)
theorem pd_9 : parseMethodDescriptor "(IIILjava/util/function/BiFunction;)I" = some ⟨[.int, .int, .int, (.object "java/util/function/BiFunction")], some .int⟩ := by decide +kernel
theorem own_w93 {Z : State} {a0 : Array Value} (hw : ∀ d ∈ tables_1, d.before a0 Z = true) : (Jvm.Cond.static ({ cls := "jdk/internal/util/Preconditions", name := "checkFromToIndex", desc := "(IIILjava/util/function/BiFunction;)I" } : Jvm.MethodName)).before a0 Z = true := hw _ (List.mem_of_getElem? (i := 93) rfl)
theorem d20_9 : decode jdk_42_method_158_code 9 = .ok (.pop, 1) := by decide +kernel
theorem d20_10 : decode jdk_42_method_158_code 10 = .ok (.return_, 1) := by decide +kernel
theorem ef_rm20 (m : MethodId) (x0 : Int32) (x1 : Int32) (x2 : Int32) : entryFrame m #[(.int x0), (.int x1), (.int x2)] 3 = mkF m 0 #[.val (.int x0), .val (.int x1), .val (.int x2)] [] := by first | (simp [entryFrame, mkF, argsToLocals, Value.category]; done) | rfl
def Q20 (Z : State) (bb : Int32) (ee : Int32) (zz : Int32) (cs : Int32) (fm : Value) (h0 : Heap) (n0 : Nat) (v : Option Value) (h : Heap) (L : List Loc) : Prop := v = none ∧ Fr n0 L ∧ h = h0
set_option maxRecDepth 65536 in
set_option maxHeartbeats 40000000 in
theorem rm20 (l : Launch) (Z : State) (a0 : Array Value) (hw : ∀ d ∈ tables_1, d.before a0 Z = true) (ws : List Jvm.Cond) (bb : Int32) (ee : Int32) (zz : Int32) (cs : Int32) (fm : Value) (h0 : Heap) (n0 : Nat) (O0 : Old Z n0 h0) (FS : OwnSt Z cs fm) (hb0 : 0 ≤ bb.toInt) (hbe : bb.toInt ≤ ee.toInt) (hez : ee.toInt ≤ zz.toInt) :
    MetFree l (⟨"java/lang/String", "checkBoundsBeginEnd", "(III)V"⟩ : MethodName) (head1 (Jvm.Cond.code (⟨"java/lang/String", "checkBoundsBeginEnd", "(III)V"⟩ : MethodName) jdk_42_method_158_code 3 none :: ws) ({ frames := 1, cells := 0, slots := 0, locals := 15 } : Room)) (fun a U => a = #[(.int bb), (.int ee), (.int zz)] ∧ Z.Warmed39 U.vm ∧ U.heap = h0) (fun _ _ _ _ _ => True) (fun _ U o U' => ∃ v L, o = .returned v ∧ Q20 Z bb ee zz cs fm h0 n0 v U'.heap L ∧ FrameEnd U o U' L ({ frames := 1, cells := 0, slots := 0, locals := 15 } : Room).cells ({ frames := 1, cells := 0, slots := 0, locals := 15 } : Room).slots) := by
  refine MetFree.of_bodySF (plainFor_of_name pn_String) hisR ?_
  intro p e s m args below meth c s₁ Bd hml0 hP hK
  obtain ⟨rfl, hZ, hh⟩ := hP
  have hx := Bd.exec
  have hby := Bd.bytes
  have hlk : meth.locks = false := BodyLoose.notSynchronized Bd
  have hml : c.maxLocals = 3 := hml0
  have hown : s.vm.findClass "java/lang/String" = some m.cls := findClass_of_methodNamed Bd.named
  have hnm := (name_of_methodNamed Bd.named Bd.method).1
  have X0 : Stand p l e ({ frames := 1, cells := 0, slots := 0, locals := 15 } : Room) s m #[(.int bb), (.int ee), (.int zz)] below meth c s₁ [] 0 0 := Stand.of_body Bd
  have e0 : s₁.heap = h0 := by rw [← hh, Bd.state]; rfl
  have N0 := Fr.nil n0
  show Goes p e below s (Q20 Z bb ee zz cs fm h0 n0) ({ frames := 1, cells := 0, slots := 0, locals := 15 } : Room).cells ({ frames := 1, cells := 0, slots := 0, locals := 15 } : Room).slots (s₁.setTop (entryFrame m #[(.int bb), (.int ee), (.int zz)] 3))
  refine Goes.enter (g' := (mkF m 0 #[.val (.int bb), .val (.int ee), .val (.int zz)] [])) (ef_rm20 m bb ee zz) ?_
  have FS0 := FS
  obtain ⟨S_COMPACT_STRINGS, hcs, S_fm, hfm⟩ := FS0
  refine Goes.step (fun _ k => pw_iloadN X0.here hx (hb hby d20_0) rfl _ (pw_iloadN X0.here hx (hb hby d20_1) rfl _ (pw_iloadN X0.here hx (hb hby d20_2) rfl _ k))) ?_
  have f1 := S_fm.ext O0.2
  obtain ⟨T2, X2, e2, st2⟩ := getS2 X0 hx hZ hown (host := "") (Or.inl (own_w90 hw)) Via.refl e0 f1 (g := (mkF m 3 #[.val (.int bb), .val (.int ee), .val (.int zz)] [(.int zz), (.int ee), (.int bb)])) rfl (hb hby d20_3)
  refine Goes.step (B := T2.setTop (mkF m 6 #[.val (.int bb), .val (.int ee), .val (.int zz)] [fm, (.int zz), (.int ee), (.int bb)])) st2 ?_
  obtain ⟨_, _, ⟨T3, qL3, qk3, qn3⟩, -, X3, ⟨Lc3, hQ3, ql3, qy3, qz3⟩, st3⟩ := Jvm.LawKit.callS X2 hx (y := (⟨"jdk/internal/util/Preconditions", "checkFromToIndex", "(IIILjava/util/function/BiFunction;)I"⟩ : MethodName)) hown (mvT hZ (own_w92 hw)) (mvT hZ (own_w93 hw)) (mvT hZ (own_w91 hw)) (mvT hZ (own_w94 hw)) (by decide) (backOf (W := 0) (rm21 l Z a0 hw [] bb ee zz fm h0 n0 O0 hb0 hbe hez hfm) hZ (own_w94 hw) (own_w91 hw) (by decide) (by decide)) (g := (mkF m 6 #[.val (.int bb), .val (.int ee), .val (.int zz)] [fm, (.int zz), (.int ee), (.int bb)])) rfl (by rw [hml]; rfl) (argsL := [(.int bb), (.int ee), (.int zz), fm]) (rest := []) (lenOf pd_9 rfl) rfl (by show 2 * 0 + _ ≤ _; exact Nat.le_of_eq rfl) (hb hby d20_6) (fun _ _ => ⟨rfl, e2, (by decide : 0 + 0 ≤ _), (by decide : 0 + 0 ≤ _)⟩)
  dsimp only [Pt.U, Pt.locs, Pt.cells, Pt.slots] at X3 ql3 qy3 qz3 st3 hQ3
  rw [ql3, qy3, qz3] at X3
  obtain ⟨rfl, Nq3, eh3⟩ := hQ3
  have N3 := Fr.app N0 Nq3
  refine Goes.step (B := T3.setTop (mkF m 9 #[.val (.int bb), .val (.int ee), .val (.int zz)] [(.int bb)])) st3 ?_
  refine Goes.step (fun _ k => pw_pop X3.here hx (hb hby d20_9) rfl _ k) ?_
  exact Goes.retV X3 hx eh3 Bd.returns hlk (hb hby d20_10) (by decide) (by decide) (⟨rfl, N3, rfl⟩)
theorem d25_0 : decode jdk_65_method_131_code 0 = .ok (.iload_n 1, 1) := by decide +kernel
theorem d25_1 : decode jdk_65_method_131_code 1 = .ok (.iload_n 0, 1) := by decide +kernel
theorem d25_2 : decode jdk_65_method_131_code 2 = .ok (.if_icmp .ge 35, 3) := by decide +kernel
theorem d25_37 : decode jdk_65_method_131_code 37 = .ok (.return_, 1) := by decide +kernel
theorem pn_Arrays : plainName "java/util/Arrays" = true := by first | (simp [plainName, overriddenIn]; done) | decide +kernel
theorem ef_rm25 (m : MethodId) (x0 : Int32) (x1 : Int32) : entryFrame m #[(.int x0), (.int x1)] 2 = mkF m 0 #[.val (.int x0), .val (.int x1)] [] := by first | (simp [entryFrame, mkF, argsToLocals, Value.category]; done) | rfl
def Q25 (Z : State) (bb : Int32) (ee : Int32) (h0 : Heap) (n0 : Nat) (v : Option Value) (h : Heap) (L : List Loc) : Prop := v = none ∧ Fr n0 L ∧ h = h0
set_option maxRecDepth 65536 in
set_option maxHeartbeats 40000000 in
theorem rm25 (l : Launch) (Z : State) (a0 : Array Value) (hw : ∀ d ∈ tables_1, d.before a0 Z = true) (ws : List Jvm.Cond) (bb : Int32) (ee : Int32) (h0 : Heap) (n0 : Nat) (O0 : Old Z n0 h0) (hbe : bb.toInt ≤ ee.toInt) :
    MetFree l (⟨"java/util/Arrays", "checkLength", "(II)V"⟩ : MethodName) (head1 (Jvm.Cond.code (⟨"java/util/Arrays", "checkLength", "(II)V"⟩ : MethodName) jdk_65_method_131_code 2 none :: ws) ({ frames := 0, cells := 0, slots := 0, locals := 0 } : Room)) (fun a U => a = #[(.int bb), (.int ee)] ∧ Z.Warmed39 U.vm ∧ U.heap = h0) (fun _ _ _ _ _ => True) (fun _ U o U' => ∃ v L, o = .returned v ∧ Q25 Z bb ee h0 n0 v U'.heap L ∧ FrameEnd U o U' L ({ frames := 0, cells := 0, slots := 0, locals := 0 } : Room).cells ({ frames := 0, cells := 0, slots := 0, locals := 0 } : Room).slots) := by
  refine MetFree.of_bodySF (plainFor_of_name pn_Arrays) hisR ?_
  intro p e s m args below meth c s₁ Bd hml0 hP hK
  obtain ⟨rfl, hZ, hh⟩ := hP
  have hx := Bd.exec
  have hby := Bd.bytes
  have hlk : meth.locks = false := BodyLoose.notSynchronized Bd
  have hml : c.maxLocals = 2 := hml0
  have hown : s.vm.findClass "java/util/Arrays" = some m.cls := findClass_of_methodNamed Bd.named
  have hnm := (name_of_methodNamed Bd.named Bd.method).1
  have X0 : Stand p l e ({ frames := 0, cells := 0, slots := 0, locals := 0 } : Room) s m #[(.int bb), (.int ee)] below meth c s₁ [] 0 0 := Stand.of_body Bd
  have e0 : s₁.heap = h0 := by rw [← hh, Bd.state]; rfl
  have N0 := Fr.nil n0
  show Goes p e below s (Q25 Z bb ee h0 n0) ({ frames := 0, cells := 0, slots := 0, locals := 0 } : Room).cells ({ frames := 0, cells := 0, slots := 0, locals := 0 } : Room).slots (s₁.setTop (entryFrame m #[(.int bb), (.int ee)] 2))
  refine Goes.enter (g' := (mkF m 0 #[.val (.int bb), .val (.int ee)] [])) (ef_rm25 m bb ee) ?_
  refine Goes.step (fun _ k => pw_iloadN X0.here hx (hb hby d25_0) rfl _ (pw_iloadN X0.here hx (hb hby d25_1) rfl _ (pw_icmpYes X0.here hx (pc' := 37) (hb hby d25_2) (flt (own_nlt hbe)).2.1 (by decide) (by decide) _ k))) ?_
  exact Goes.retV X0 hx e0 Bd.returns hlk (hb hby d25_37) (by decide) (by decide) (⟨rfl, N0, rfl⟩)
theorem d24_0 : decode jdk_65_method_133_code 0 = .ok (.iload_n 1, 1) := by decide +kernel
theorem d24_1 : decode jdk_65_method_133_code 1 = .ok (.iload_n 2, 1) := by decide +kernel
theorem d24_2 : decode jdk_65_method_133_code 2 = .ok (.invokestatic 343, 3) := by decide +kernel
theorem own_w106 {Z : State} {a0 : Array Value} (hw : ∀ d ∈ tables_1, d.before a0 Z = true) : (Jvm.Cond.methodLink "java/util/Arrays" (343 : Nat) ({ cls := "java/util/Arrays", name := "checkLength", desc := "(II)V" } : Jvm.MethodName)).before a0 Z = true := hw _ (List.mem_of_getElem? (i := 106) rfl)
theorem own_w108 {Z : State} {a0 : Array Value} (hw : ∀ d ∈ tables_1, d.before a0 Z = true) : (Jvm.Cond.code ({ cls := "java/util/Arrays", name := "checkLength", desc := "(II)V" } : Jvm.MethodName) jdk_65_method_131_code (2 : Nat) (Option.none : Option Jvm.ClassFile.FieldType)).before a0 Z = true := hw _ (List.mem_of_getElem? (i := 108) rfl)
theorem own_w101 {Z : State} {a0 : Array Value} (hw : ∀ d ∈ tables_1, d.before a0 Z = true) : (Jvm.Cond.initialized "java/util/Arrays").before a0 Z = true := hw _ (List.mem_of_getElem? (i := 101) rfl)
theorem own_w107 {Z : State} {a0 : Array Value} (hw : ∀ d ∈ tables_1, d.before a0 Z = true) : (Jvm.Cond.static ({ cls := "java/util/Arrays", name := "checkLength", desc := "(II)V" } : Jvm.MethodName)).before a0 Z = true := hw _ (List.mem_of_getElem? (i := 107) rfl)
theorem d24_5 : decode jdk_65_method_133_code 5 = .ok (.iload_n 2, 1) := by decide +kernel
theorem d24_6 : decode jdk_65_method_133_code 6 = .ok (.iload_n 1, 1) := by decide +kernel
theorem d24_7 : decode jdk_65_method_133_code 7 = .ok (.isub, 1) := by decide +kernel
theorem d24_8 : decode jdk_65_method_133_code 8 = .ok (.istore_n 3, 1) := by decide +kernel
theorem d24_9 : decode jdk_65_method_133_code 9 = .ok (.iload_n 3, 1) := by decide +kernel
theorem d24_10 : decode jdk_65_method_133_code 10 = .ok (.newarray .byte, 2) := by decide +kernel
theorem d24_12 : decode jdk_65_method_133_code 12 = .ok (.astore 4, 2) := by decide +kernel
theorem d24_14 : decode jdk_65_method_133_code 14 = .ok (.aload_n 0, 1) := by decide +kernel
theorem d24_15 : decode jdk_65_method_133_code 15 = .ok (.iload_n 1, 1) := by decide +kernel
theorem d24_16 : decode jdk_65_method_133_code 16 = .ok (.aload 4, 2) := by decide +kernel
theorem d24_18 : decode jdk_65_method_133_code 18 = .ok (.iconst 0, 1) := by decide +kernel
theorem d24_19 : decode jdk_65_method_133_code 19 = .ok (.aload_n 0, 1) := by decide +kernel
theorem d24_20 : decode jdk_65_method_133_code 20 = .ok (.arraylength, 1) := by decide +kernel
theorem d24_21 : decode jdk_65_method_133_code 21 = .ok (.iload_n 1, 1) := by decide +kernel
theorem d24_22 : decode jdk_65_method_133_code 22 = .ok (.isub, 1) := by decide +kernel
theorem d24_23 : decode jdk_65_method_133_code 23 = .ok (.iload_n 3, 1) := by decide +kernel
theorem d24_24 : decode jdk_65_method_133_code 24 = .ok (.invokestatic 304, 3) := by decide +kernel
theorem own_w109 {Z : State} {a0 : Array Value} (hw : ∀ d ∈ tables_1, d.before a0 Z = true) : (Jvm.Cond.methodLink "java/util/Arrays" (304 : Nat) ({ cls := "java/lang/Math", name := "min", desc := "(II)I" } : Jvm.MethodName)).before a0 Z = true := hw _ (List.mem_of_getElem? (i := 109) rfl)
theorem own_w73 {Z : State} {a0 : Array Value} (hw : ∀ d ∈ tables_1, d.before a0 Z = true) : (Jvm.Cond.code ({ cls := "java/lang/Math", name := "min", desc := "(II)I" } : Jvm.MethodName) jdk_29_method_69_code (2 : Nat) (Option.some Jvm.ClassFile.FieldType.int)).before a0 Z = true := hw _ (List.mem_of_getElem? (i := 73) rfl)
theorem own_w72 {Z : State} {a0 : Array Value} (hw : ∀ d ∈ tables_1, d.before a0 Z = true) : (Jvm.Cond.initialized "java/lang/Math").before a0 Z = true := hw _ (List.mem_of_getElem? (i := 72) rfl)
theorem pd_10 : parseMethodDescriptor "(II)I" = some ⟨[.int, .int], some .int⟩ := by decide +kernel
theorem own_w71 {Z : State} {a0 : Array Value} (hw : ∀ d ∈ tables_1, d.before a0 Z = true) : (Jvm.Cond.static ({ cls := "java/lang/Math", name := "min", desc := "(II)I" } : Jvm.MethodName)).before a0 Z = true := hw _ (List.mem_of_getElem? (i := 71) rfl)
theorem d24_27 : decode jdk_65_method_133_code 27 = .ok (.invokestatic 150, 3) := by decide +kernel
theorem own_w110 {Z : State} {a0 : Array Value} (hw : ∀ d ∈ tables_1, d.before a0 Z = true) : (Jvm.Cond.methodLink "java/util/Arrays" (150 : Nat) ({ cls := "java/lang/System", name := "arraycopy", desc := "(Ljava/lang/Object;ILjava/lang/Object;II)V" } : Jvm.MethodName)).before a0 Z = true := hw _ (List.mem_of_getElem? (i := 110) rfl)
theorem own_w113 {Z : State} {a0 : Array Value} (hw : ∀ d ∈ tables_1, d.before a0 Z = true) : (Jvm.Cond.native ({ cls := "java/lang/System", name := "arraycopy", desc := "(Ljava/lang/Object;ILjava/lang/Object;II)V" } : Jvm.MethodName)).before a0 Z = true := hw _ (List.mem_of_getElem? (i := 113) rfl)
theorem own_w111 {Z : State} {a0 : Array Value} (hw : ∀ d ∈ tables_1, d.before a0 Z = true) : (Jvm.Cond.static ({ cls := "java/lang/System", name := "arraycopy", desc := "(Ljava/lang/Object;ILjava/lang/Object;II)V" } : Jvm.MethodName)).before a0 Z = true := hw _ (List.mem_of_getElem? (i := 111) rfl)
theorem own_w112 {Z : State} {a0 : Array Value} (hw : ∀ d ∈ tables_1, d.before a0 Z = true) : (Jvm.Cond.initialized "java/lang/System").before a0 Z = true := hw _ (List.mem_of_getElem? (i := 112) rfl)
theorem d24_30 : decode jdk_65_method_133_code 30 = .ok (.aload 4, 2) := by decide +kernel
theorem d24_32 : decode jdk_65_method_133_code 32 = .ok (.areturn, 1) := by decide +kernel
theorem ef_rmCRB (m : MethodId) (x0 : Addr) (x1 : Int32) (x2 : Int32) : entryFrame m #[(.ref x0), (.int x1), (.int x2)] 5 = mkF m 0 #[.val (.ref x0), .val (.int x1), .val (.int x2), .unset, .unset] [] := by first | (simp [entryFrame, mkF, argsToLocals, Value.category]; done) | rfl
def QCRB (Z : State) (b1 : Addr) (k1 : ClassId) (z1 : Int32) (xs : List Int32) (bb : Int32) (ee : Int32) (h0 : Heap) (n0 : Nat) (v : Option Value) (h : Heap) (L : List Loc) : Prop := ∃ (x : Addr) (k : ClassId) (mm : Int32), v = some (.ref x) ∧ Fr n0 L ∧ Keep h0 h [] ∧ n0 ≤ x ∧ h0.size ≤ x ∧ mm = ee - bb ∧ Arv Z h x k .byte mm ((own_sub xs bb mm).map Value.int) (.int (0 : Int32))
set_option maxRecDepth 65536 in
set_option maxHeartbeats 40000000 in
theorem rmCRB (l : Launch) (Z : State) (a0 : Array Value) (hw : ∀ d ∈ tables_1, d.before a0 Z = true) (ws : List Jvm.Cond) (b1 : Addr) (k1 : ClassId) (z1 : Int32) (xs : List Int32) (bb : Int32) (ee : Int32) (h0 : Heap) (n0 : Nat) (O0 : Old Z n0 h0) (V1 : Arv Z h0 b1 k1 .byte z1 (xs.map Value.int) (.int (0 : Int32))) (hb0 : 0 ≤ bb.toInt) (hbe : bb.toInt ≤ ee.toInt) (hez : ee.toInt ≤ z1.toInt) (hz5 : z1.toInt ≤ 5) :
    MetFree l (⟨"java/util/Arrays", "copyOfRangeByte", "([BII)[B"⟩ : MethodName) (head1 (Jvm.Cond.code (⟨"java/util/Arrays", "copyOfRangeByte", "([BII)[B"⟩ : MethodName) jdk_65_method_133_code 5 (some (.array .byte)) :: ws) ({ frames := 1, cells := 1, slots := 5, locals := 18 } : Room)) (fun a U => a = #[(.ref b1), (.int bb), (.int ee)] ∧ Z.Warmed39 U.vm ∧ U.heap = h0) (fun _ _ _ _ _ => True) (fun _ U o U' => ∃ v L, o = .returned v ∧ QCRB Z b1 k1 z1 xs bb ee h0 n0 v U'.heap L ∧ FrameEnd U o U' L ({ frames := 1, cells := 1, slots := 5, locals := 18 } : Room).cells ({ frames := 1, cells := 1, slots := 5, locals := 18 } : Room).slots) := by
  refine MetFree.of_bodySF (plainFor_of_name pn_Arrays) hisR ?_
  intro p e s m args below meth c s₁ Bd hml0 hP hK
  obtain ⟨rfl, hZ, hh⟩ := hP
  have hx := Bd.exec
  have hby := Bd.bytes
  have hlk : meth.locks = false := BodyLoose.notSynchronized Bd
  have hml : c.maxLocals = 5 := hml0
  have hown : s.vm.findClass "java/util/Arrays" = some m.cls := findClass_of_methodNamed Bd.named
  have hnm := (name_of_methodNamed Bd.named Bd.method).1
  have X0 : Stand p l e ({ frames := 1, cells := 1, slots := 5, locals := 18 } : Room) s m #[(.ref b1), (.int bb), (.int ee)] below meth c s₁ [] 0 0 := Stand.of_body Bd
  have e0 : s₁.heap = h0 := by rw [← hh, Bd.state]; rfl
  have N0 := Fr.nil n0
  show Goes p e below s (QCRB Z b1 k1 z1 xs bb ee h0 n0) ({ frames := 1, cells := 1, slots := 5, locals := 18 } : Room).cells ({ frames := 1, cells := 1, slots := 5, locals := 18 } : Room).slots (s₁.setTop (entryFrame m #[(.ref b1), (.int bb), (.int ee)] 5))
  refine Goes.enter (g' := (mkF m 0 #[.val (.ref b1), .val (.int bb), .val (.int ee), .unset, .unset] [])) (ef_rmCRB m b1 bb ee) ?_
  refine Goes.step (fun _ k => pw_iloadN X0.here hx (hb hby d24_0) rfl _ (pw_iloadN X0.here hx (hb hby d24_1) rfl _ k)) ?_
  obtain ⟨_, _, ⟨T1, qL1, qk1, qn1⟩, -, X1, ⟨Lc1, hQ1, ql1, qy1, qz1⟩, st1⟩ := Jvm.LawKit.callS X0 hx (y := (⟨"java/util/Arrays", "checkLength", "(II)V"⟩ : MethodName)) hown (mvT hZ (own_w106 hw)) (mvT hZ (own_w107 hw)) (mvT hZ (own_w101 hw)) (mvT hZ (own_w108 hw)) (by decide) (backOf (W := 0) (rm25 l Z a0 hw [] bb ee h0 n0 O0 hbe) hZ (own_w108 hw) (own_w101 hw) (by decide) (by decide)) (g := (mkF m 2 #[.val (.ref b1), .val (.int bb), .val (.int ee), .unset, .unset] [(.int ee), (.int bb)])) rfl (by rw [hml]; rfl) (argsL := [(.int bb), (.int ee)]) (rest := []) (lenOf pd_6 rfl) rfl (by show 2 * 0 + _ ≤ _; exact Nat.le_of_eq rfl) (hb hby d24_2) (fun _ _ => ⟨rfl, e0, (by decide : 0 + 0 ≤ _), (by decide : 0 + 0 ≤ _)⟩)
  dsimp only [Pt.U, Pt.locs, Pt.cells, Pt.slots] at X1 ql1 qy1 qz1 st1 hQ1
  rw [ql1, qy1, qz1] at X1
  obtain ⟨rfl, Nq1, eh1⟩ := hQ1
  have N1 := Fr.app N0 Nq1
  refine Goes.step (B := T1.setTop (mkF m 5 #[.val (.ref b1), .val (.int bb), .val (.int ee), .unset, .unset] [])) st1 ?_
  refine Goes.step (fun _ k => pw_iloadN X1.here hx (hb hby d24_5) rfl _ (pw_iloadN X1.here hx (hb hby d24_6) rfl _ (pw_isub X1.here hx (hb hby d24_7) _ k))) ?_
  obtain ⟨mm, hmm⟩ : ∃ z, z = (ee - bb) := ⟨_, rfl⟩
  rw [← hmm]
  have tm := own_dif hmm hb0 hbe
  have hm0 : ¬ mm < (0 : Int32) := own_nlt (by rw [own_i0]; omega)
  have nm := own_nat (j := mm) (by omega)
  have nb := own_nat hb0
  have nz := own_nat (j := z1) (by omega)
  have hm5 : mm.toNatClampNeg ≤ 5 := by omega
  refine Goes.step (fun _ k => pw_istoreN X1.here hx (l' := #[.val (.ref b1), .val (.int bb), .val (.int ee), .val (.int mm), .unset]) (hb hby d24_8) rfl _ (pw_iloadN X1.here hx (hb hby d24_9) rfl _ k)) ?_
  obtain ⟨T2, h2, k2, X2, e2, E2, A2, st2⟩ := newP (aty := .byte) X1 hx hZ (own_w23 hw) eh1 (g := (mkF m 10 #[.val (.ref b1), .val (.int bb), .val (.int ee), .val (.int mm), .unset] [(.int mm)])) rfl (hb hby d24_10) rfl hm0 (cap := 5) hm5 (by decide) (by decide) (by decide)
  obtain ⟨b2, g2⟩ : ∃ z, z = h0.size := ⟨_, rfl⟩
  rw [← g2] at A2 st2
  have ne_b1_b2 : b1 ≠ b2 := Nat.ne_of_lt (Nat.lt_of_lt_of_le V1.lt (Nat.le_of_eq g2.symm))
  have g_b2 : n0 ≤ b2 := Nat.le_trans (own_z O0) (Nat.le_of_eq g2.symm)
  have O_2 := O0.ext E2
  have sz_b2 : h0.size ≤ b2 := Nat.le_trans (Keep.refl h0 []).1 (Nat.le_of_eq g2.symm)
  have K_2 := (Keep.refl h0 []).ext E2
  have V_b2 := Arv.new A2 hm0
  refine Goes.step (B := T2.setTop (mkF m 12 #[.val (.ref b1), .val (.int bb), .val (.int ee), .val (.int mm), .unset] [(.ref b2)])) st2 ?_
  have Vp_b2 : Arv Z h2 b2 k2 .byte mm (List.replicate mm.toNatClampNeg (.int 0)) (.int 0) := Arv.pad V_b2 (pad_rep [] (.int 0) mm.toNatClampNeg)
  refine Goes.step (fun _ k => pw_astore X2.here hx (l' := #[.val (.ref b1), .val (.int bb), .val (.int ee), .val (.int mm), .val (.ref b2)]) (hb hby d24_12) rfl rfl _ (pw_aloadN X2.here hx (hb hby d24_14) rfl rfl _ (pw_iloadN X2.here hx (hb hby d24_15) rfl _ (pw_aload X2.here hx (hb hby d24_16) rfl rfl _ (pw_iconst X2.here hx (v := (0 : Int32)) (hb hby d24_18) rfl _ (pw_aloadN X2.here hx (hb hby d24_19) rfl rfl _ k)))))) ?_
  have f3 := (V1.ext E2)
  obtain ⟨c4, Ar4, -, Sz4, Nn4, -, -⟩ := id f3
  have len4 := X2.arraylength hx (by rw [e2]; exact Ar4.1) (State.isArrayOf_alike hZ.alike Ar4.2.1) (g := (mkF m 20 #[.val (.ref b1), .val (.int bb), .val (.int ee), .val (.int mm), .val (.ref b2)] [(.ref b1), (.int 0), (.ref b2), (.int bb), (.ref b1)])) rfl rfl (hb hby d24_20)
  rw [len_of Sz4 Nn4] at len4
  refine Goes.step (B := T2.setTop (mkF m 21 #[.val (.ref b1), .val (.int bb), .val (.int ee), .val (.int mm), .val (.ref b2)] [(.int z1), (.int 0), (.ref b2), (.int bb), (.ref b1)])) len4 ?_
  refine Goes.step (fun _ k => pw_iloadN X2.here hx (hb hby d24_21) rfl _ (pw_isub X2.here hx (hb hby d24_22) _ (pw_iloadN X2.here hx (hb hby d24_23) rfl _ k))) ?_
  obtain ⟨_, _, ⟨T5, qL5, qk5, qn5⟩, -, X5, ⟨Lc5, hQ5, ql5, qy5, qz5⟩, st5⟩ := Jvm.LawKit.callS X2 hx (y := (⟨"java/lang/Math", "min", "(II)I"⟩ : MethodName)) hown (mvT hZ (own_w109 hw)) (mvT hZ (own_w71 hw)) (mvT hZ (own_w72 hw)) (mvT hZ (own_w73 hw)) (by decide) (backOf (W := 4) (rm16 l Z a0 hw [] (z1 - bb) mm h2 n0 O_2 ) hZ (own_w73 hw) (own_w72 hw) (by decide) (by decide)) (g := (mkF m 24 #[.val (.ref b1), .val (.int bb), .val (.int ee), .val (.int mm), .val (.ref b2)] [(.int mm), (.int (z1 - bb)), (.int 0), (.ref b2), (.int bb), (.ref b1)])) rfl (by rw [hml]; rfl) (argsL := [(.int (z1 - bb)), (.int mm)]) (rest := [(.int 0), (.ref b2), (.int bb), (.ref b1)]) (lenOf pd_10 rfl) rfl (by show 2 * 0 + _ ≤ _; exact Nat.le_of_eq rfl) (hb hby d24_24) (fun _ _ => ⟨rfl, e2, (by decide : 1 + 0 ≤ _), (by decide : 5 + 0 ≤ _)⟩)
  dsimp only [Pt.U, Pt.locs, Pt.cells, Pt.slots] at X5 ql5 qy5 qz5 st5 hQ5
  rw [ql5, qy5, qz5] at X5
  obtain ⟨rfl, Nq5, eh5⟩ := hQ5
  have N5 := Fr.app N1 Nq5
  refine Goes.step (B := T5.setTop (mkF m 27 #[.val (.ref b1), .val (.int bb), .val (.int ee), .val (.int mm), .val (.ref b2)] [(.int (own_min (z1 - bb) mm)), (.int 0), (.ref b2), (.int bb), (.ref b1)])) st5 ?_
  rw [own_mnq (show mm.toInt ≤ (z1 - bb).toInt from by have q := own_dif (m := z1 - bb) rfl hb0 (by omega); omega)]
  obtain ⟨T6, h6, L6, X6, e6, Nc6, Kp6, Vc6, st6⟩ := cpA X5 hx hZ hown (own_w110 hw) (own_w113 hw) (own_w111 hw) (own_w112 hw) eh5 f3 Vp_b2 (Or.inl ⟨rfl, rfl⟩) (own_nlt (by rw [own_i0]; exact hb0)) (by decide) hm0 (by omega) (by rw [show (0 : Int32).toNatClampNeg = 0 from by decide]; omega) rfl (by rw [show (0 : Int32).toNatClampNeg = 0 from by decide]; simp) N5 g_b2 (g := (mkF m 27 #[.val (.ref b1), .val (.int bb), .val (.int ee), .val (.int mm), .val (.ref b2)] [(.int mm), (.int 0), (.ref b2), (.int bb), (.ref b1)])) rfl (by rw [hml]; rfl) (rest := []) rfl (hb hby d24_27) (by decide) (W := 0) (by show 2 * 0 + _ ≤ _; exact Nat.le_of_eq rfl) (by decide)
  have O_6 := O_2.keep Kp6 (allS g_b2 all0)
  have K_6 := K_2.trans Kp6 (allS (P := fun x => x ∈ _ ∨ _) (Or.inr sz_b2) all0)
  refine Goes.step (B := T6.setTop (mkF m 30 #[.val (.ref b1), .val (.int bb), .val (.int ee), .val (.int mm), .val (.ref b2)] [])) st6 ?_
  have Vz_b2 : Arv Z h6 b2 k2 .byte mm ((own_sub xs bb mm).map Value.int) (.int 0) := by have q := Vc6; rw [own_cp] at q; exact q
  refine Goes.step (fun _ k => pw_aload X6.here hx (hb hby d24_30) rfl rfl _ k) ?_
  exact Goes.retA X6 hx e6 Bd.returns rfl rfl hlk (hb hby d24_32) (by decide) (by decide) (⟨b2, k2, mm, rfl, Nc6, K_6, g_b2, sz_b2, hmm, Vz_b2⟩)
theorem d23_0 : decode jdk_65_method_132_code 0 = .ok (.iload_n 1, 1) := by decide +kernel
theorem d23_1 : decode jdk_65_method_132_code 1 = .ok (.ifCond .ne 9, 3) := by decide +kernel
theorem d23_4 : decode jdk_65_method_132_code 4 = .ok (.iload_n 2, 1) := by decide +kernel
theorem d23_5 : decode jdk_65_method_132_code 5 = .ok (.aload_n 0, 1) := by decide +kernel
theorem d23_6 : decode jdk_65_method_132_code 6 = .ok (.arraylength, 1) := by decide +kernel
theorem d23_7 : decode jdk_65_method_132_code 7 = .ok (.if_icmp .eq 10, 3) := by decide +kernel
theorem d23_10 : decode jdk_65_method_132_code 10 = .ok (.aload_n 0, 1) := by decide +kernel
theorem d23_11 : decode jdk_65_method_132_code 11 = .ok (.iload_n 1, 1) := by decide +kernel
theorem d23_12 : decode jdk_65_method_132_code 12 = .ok (.iload_n 2, 1) := by decide +kernel
theorem d23_13 : decode jdk_65_method_132_code 13 = .ok (.invokestatic 339, 3) := by decide +kernel
theorem own_w103 {Z : State} {a0 : Array Value} (hw : ∀ d ∈ tables_1, d.before a0 Z = true) : (Jvm.Cond.methodLink "java/util/Arrays" (339 : Nat) ({ cls := "java/util/Arrays", name := "copyOfRangeByte", desc := "([BII)[B" } : Jvm.MethodName)).before a0 Z = true := hw _ (List.mem_of_getElem? (i := 103) rfl)
theorem own_w105 {Z : State} {a0 : Array Value} (hw : ∀ d ∈ tables_1, d.before a0 Z = true) : (Jvm.Cond.code ({ cls := "java/util/Arrays", name := "copyOfRangeByte", desc := "([BII)[B" } : Jvm.MethodName) jdk_65_method_133_code (5 : Nat) (Option.some (Jvm.ClassFile.FieldType.array Jvm.ClassFile.FieldType.byte))).before a0 Z = true := hw _ (List.mem_of_getElem? (i := 105) rfl)
theorem pd_11 : parseMethodDescriptor "([BII)[B" = some ⟨[(.array .byte), .int, .int], some (.array .byte)⟩ := by decide +kernel
theorem own_w104 {Z : State} {a0 : Array Value} (hw : ∀ d ∈ tables_1, d.before a0 Z = true) : (Jvm.Cond.static ({ cls := "java/util/Arrays", name := "copyOfRangeByte", desc := "([BII)[B" } : Jvm.MethodName)).before a0 Z = true := hw _ (List.mem_of_getElem? (i := 104) rfl)
theorem d23_16 : decode jdk_65_method_132_code 16 = .ok (.areturn, 1) := by decide +kernel
theorem ef_rmCR (m : MethodId) (x0 : Addr) (x1 : Int32) (x2 : Int32) : entryFrame m #[(.ref x0), (.int x1), (.int x2)] 3 = mkF m 0 #[.val (.ref x0), .val (.int x1), .val (.int x2)] [] := by first | (simp [entryFrame, mkF, argsToLocals, Value.category]; done) | rfl
def QCR (Z : State) (b1 : Addr) (k1 : ClassId) (z1 : Int32) (xs : List Int32) (bb : Int32) (ee : Int32) (h0 : Heap) (n0 : Nat) (v : Option Value) (h : Heap) (L : List Loc) : Prop := ∃ (x : Addr) (k : ClassId) (mm : Int32), v = some (.ref x) ∧ Fr n0 L ∧ Keep h0 h [] ∧ n0 ≤ x ∧ h0.size ≤ x ∧ mm = ee - bb ∧ Arv Z h x k .byte mm ((own_sub xs bb mm).map Value.int) (.int (0 : Int32))
set_option maxRecDepth 65536 in
set_option maxHeartbeats 40000000 in
theorem rmCR (l : Launch) (Z : State) (a0 : Array Value) (hw : ∀ d ∈ tables_1, d.before a0 Z = true) (ws : List Jvm.Cond) (b1 : Addr) (k1 : ClassId) (z1 : Int32) (xs : List Int32) (bb : Int32) (ee : Int32) (h0 : Heap) (n0 : Nat) (O0 : Old Z n0 h0) (V1 : Arv Z h0 b1 k1 .byte z1 (xs.map Value.int) (.int (0 : Int32))) (hb0 : 0 ≤ bb.toInt) (hbe : bb.toInt ≤ ee.toInt) (hez : ee.toInt ≤ z1.toInt) (hz5 : z1.toInt ≤ 5) (hne : ¬ (bb = (0 : Int32) ∧ ee = z1)) :
    MetFree l (⟨"java/util/Arrays", "copyOfRange", "([BII)[B"⟩ : MethodName) (head1 (Jvm.Cond.code (⟨"java/util/Arrays", "copyOfRange", "([BII)[B"⟩ : MethodName) jdk_65_method_132_code 3 (some (.array .byte)) :: ws) ({ frames := 2, cells := 1, slots := 5, locals := 34 } : Room)) (fun a U => a = #[(.ref b1), (.int bb), (.int ee)] ∧ Z.Warmed39 U.vm ∧ U.heap = h0) (fun _ _ _ _ _ => True) (fun _ U o U' => ∃ v L, o = .returned v ∧ QCR Z b1 k1 z1 xs bb ee h0 n0 v U'.heap L ∧ FrameEnd U o U' L ({ frames := 2, cells := 1, slots := 5, locals := 34 } : Room).cells ({ frames := 2, cells := 1, slots := 5, locals := 34 } : Room).slots) := by
  refine MetFree.of_bodySF (plainFor_of_name pn_Arrays) hisR ?_
  intro p e s m args below meth c s₁ Bd hml0 hP hK
  obtain ⟨rfl, hZ, hh⟩ := hP
  have hx := Bd.exec
  have hby := Bd.bytes
  have hlk : meth.locks = false := BodyLoose.notSynchronized Bd
  have hml : c.maxLocals = 3 := hml0
  have hown : s.vm.findClass "java/util/Arrays" = some m.cls := findClass_of_methodNamed Bd.named
  have hnm := (name_of_methodNamed Bd.named Bd.method).1
  have X0 : Stand p l e ({ frames := 2, cells := 1, slots := 5, locals := 34 } : Room) s m #[(.ref b1), (.int bb), (.int ee)] below meth c s₁ [] 0 0 := Stand.of_body Bd
  have e0 : s₁.heap = h0 := by rw [← hh, Bd.state]; rfl
  have N0 := Fr.nil n0
  show Goes p e below s (QCR Z b1 k1 z1 xs bb ee h0 n0) ({ frames := 2, cells := 1, slots := 5, locals := 34 } : Room).cells ({ frames := 2, cells := 1, slots := 5, locals := 34 } : Room).slots (s₁.setTop (entryFrame m #[(.ref b1), (.int bb), (.int ee)] 3))
  refine Goes.enter (g' := (mkF m 0 #[.val (.ref b1), .val (.int bb), .val (.int ee)] [])) (ef_rmCR m b1 bb ee) ?_
  refine Goes.step (fun _ k => pw_iloadN X0.here hx (hb hby d23_0) rfl _ k) ?_
  by_cases hc1_0 : bb = (0 : Int32)
  · refine Goes.step (fun _ k => pw_ifNo X0.here hx (hb hby d23_1) ((if0 _ _).trans (teq hc1_0).2) _ (pw_iloadN X0.here hx (hb hby d23_4) rfl _ (pw_aloadN X0.here hx (hb hby d23_5) rfl rfl _ k))) ?_
    obtain ⟨c2, Ar2, -, Sz2, Nn2, -, -⟩ := id V1
    have len2 := X0.arraylength hx (by rw [e0]; exact Ar2.1) (State.isArrayOf_alike hZ.alike Ar2.2.1) (g := (mkF m 6 #[.val (.ref b1), .val (.int bb), .val (.int ee)] [(.ref b1), (.int ee)])) rfl rfl (hb hby d23_6)
    rw [len_of Sz2 Nn2] at len2
    refine Goes.step (B := s₁.setTop (mkF m 7 #[.val (.ref b1), .val (.int bb), .val (.int ee)] [(.int z1), (.int ee)])) len2 ?_
    refine Goes.step (fun _ k => pw_icmpNo X0.here hx (hb hby d23_7) (feq (fun q => hne ⟨hc1_0, q⟩)).1 _ (pw_aloadN X0.here hx (hb hby d23_10) rfl rfl _ (pw_iloadN X0.here hx (hb hby d23_11) rfl _ (pw_iloadN X0.here hx (hb hby d23_12) rfl _ k)))) ?_
    have lt_b1_3 := V1.lt
    obtain ⟨_, _, ⟨T3, qL3, qk3, qn3⟩, -, X3, ⟨Lc3, hQ3, ql3, qy3, qz3⟩, st3⟩ := Jvm.LawKit.callS X0 hx (y := (⟨"java/util/Arrays", "copyOfRangeByte", "([BII)[B"⟩ : MethodName)) hown (mvT hZ (own_w103 hw)) (mvT hZ (own_w104 hw)) (mvT hZ (own_w101 hw)) (mvT hZ (own_w105 hw)) (by decide) (backOf (W := 0) (rmCRB l Z a0 hw [] b1 k1 z1 xs bb ee h0 n0 O0 V1 hb0 hbe hez hz5) hZ (own_w105 hw) (own_w101 hw) (by decide) (by decide)) (g := (mkF m 13 #[.val (.ref b1), .val (.int bb), .val (.int ee)] [(.int ee), (.int bb), (.ref b1)])) rfl (by rw [hml]; rfl) (argsL := [(.ref b1), (.int bb), (.int ee)]) (rest := []) (lenOf pd_11 rfl) rfl (by show 2 * 0 + _ ≤ _; exact Nat.le_of_eq rfl) (hb hby d23_13) (fun _ _ => ⟨rfl, e0, (by decide : 0 + 1 ≤ _), (by decide : 0 + 5 ≤ _)⟩)
    dsimp only [Pt.U, Pt.locs, Pt.cells, Pt.slots] at X3 ql3 qy3 qz3 st3 hQ3
    rw [ql3, qy3, qz3] at X3
    obtain ⟨fb3, fk3, mq3, rfl, Nq3, Kp3, gb3, sz_fb3, hq3, Vb3⟩ := hQ3
    have ne_b1_fb3 : b1 ≠ fb3 := Nat.ne_of_lt (Nat.lt_of_lt_of_le lt_b1_3 sz_fb3)
    have O_3 := O0.keep Kp3 all0
    have K_3 := (Keep.refl h0 []).trans Kp3 all0
    have N3 := Fr.app N0 Nq3
    refine Goes.step (B := T3.setTop (mkF m 16 #[.val (.ref b1), .val (.int bb), .val (.int ee)] [(.ref fb3)])) st3 ?_
    exact Goes.retA X3 hx rfl Bd.returns rfl rfl hlk (hb hby d23_16) (by decide) (by decide) (⟨fb3, fk3, mq3, rfl, N3, K_3, gb3, sz_fb3, hq3, Vb3⟩)
  · refine Goes.step (fun _ k => pw_ifYes X0.here hx (pc' := 10) (hb hby d23_1) ((if0 _ _).trans (feq hc1_0).2) (by decide) (by decide) _ (pw_aloadN X0.here hx (hb hby d23_10) rfl rfl _ (pw_iloadN X0.here hx (hb hby d23_11) rfl _ (pw_iloadN X0.here hx (hb hby d23_12) rfl _ k)))) ?_
    have lt_b1_4 := V1.lt
    obtain ⟨_, _, ⟨T4, qL4, qk4, qn4⟩, -, X4, ⟨Lc4, hQ4, ql4, qy4, qz4⟩, st4⟩ := Jvm.LawKit.callS X0 hx (y := (⟨"java/util/Arrays", "copyOfRangeByte", "([BII)[B"⟩ : MethodName)) hown (mvT hZ (own_w103 hw)) (mvT hZ (own_w104 hw)) (mvT hZ (own_w101 hw)) (mvT hZ (own_w105 hw)) (by decide) (backOf (W := 0) (rmCRB l Z a0 hw [] b1 k1 z1 xs bb ee h0 n0 O0 V1 hb0 hbe hez hz5) hZ (own_w105 hw) (own_w101 hw) (by decide) (by decide)) (g := (mkF m 13 #[.val (.ref b1), .val (.int bb), .val (.int ee)] [(.int ee), (.int bb), (.ref b1)])) rfl (by rw [hml]; rfl) (argsL := [(.ref b1), (.int bb), (.int ee)]) (rest := []) (lenOf pd_11 rfl) rfl (by show 2 * 0 + _ ≤ _; exact Nat.le_of_eq rfl) (hb hby d23_13) (fun _ _ => ⟨rfl, e0, (by decide : 0 + 1 ≤ _), (by decide : 0 + 5 ≤ _)⟩)
    dsimp only [Pt.U, Pt.locs, Pt.cells, Pt.slots] at X4 ql4 qy4 qz4 st4 hQ4
    rw [ql4, qy4, qz4] at X4
    obtain ⟨fb4, fk4, mq4, rfl, Nq4, Kp4, gb4, sz_fb4, hq4, Vb4⟩ := hQ4
    have ne_b1_fb4 : b1 ≠ fb4 := Nat.ne_of_lt (Nat.lt_of_lt_of_le lt_b1_4 sz_fb4)
    have O_4 := O0.keep Kp4 all0
    have K_4 := (Keep.refl h0 []).trans Kp4 all0
    have N4 := Fr.app N0 Nq4
    refine Goes.step (B := T4.setTop (mkF m 16 #[.val (.ref b1), .val (.int bb), .val (.int ee)] [(.ref fb4)])) st4 ?_
    exact Goes.retA X4 hx rfl Bd.returns rfl rfl hlk (hb hby d23_16) (by decide) (by decide) (⟨fb4, fk4, mq4, rfl, N4, K_4, gb4, sz_fb4, hq4, Vb4⟩)
theorem d26_0 : decode jdk_42_method_151_code 0 = .ok (.aload_n 0, 1) := by decide +kernel
theorem d26_1 : decode jdk_42_method_151_code 1 = .ok (.invokespecial 1, 3) := by decide +kernel
theorem d26_4 : decode jdk_42_method_151_code 4 = .ok (.aload_n 0, 1) := by decide +kernel
theorem d26_5 : decode jdk_42_method_151_code 5 = .ok (.aload_n 1, 1) := by decide +kernel
theorem d26_6 : decode jdk_42_method_151_code 6 = .ok (.putfield 9, 3) := by decide +kernel
theorem d26_9 : decode jdk_42_method_151_code 9 = .ok (.aload_n 0, 1) := by decide +kernel
theorem d26_10 : decode jdk_42_method_151_code 10 = .ok (.iload_n 2, 1) := by decide +kernel
theorem d26_11 : decode jdk_42_method_151_code 11 = .ok (.putfield 15, 3) := by decide +kernel
theorem d26_14 : decode jdk_42_method_151_code 14 = .ok (.return_, 1) := by decide +kernel
theorem ef_rmSB (m : MethodId) (x0 : Addr) (x1 : Addr) (x2 : Int32) : entryFrame m #[(.ref x0), (.ref x1), (.int x2)] 3 = mkF m 0 #[.val (.ref x0), .val (.ref x1), .val (.int x2)] [] := by first | (simp [entryFrame, mkF, argsToLocals, Value.category]; done) | rfl
def QSB (Z : State) (a0r : Addr) (p1 : Addr) (h0 : Heap) (n0 : Nat) (v : Option Value) (h : Heap) (L : List Loc) : Prop := v = none ∧ Fr n0 L ∧ Keep h0 h [a0r] ∧ Exa Z h a0r "java/lang/String" ∧ Fld Z h a0r "java/lang/String" "value" "[B" (.ref p1) ∧ Fld Z h a0r "java/lang/String" "coder" "B" (.int 0)
set_option maxRecDepth 65536 in
set_option maxHeartbeats 40000000 in
theorem rmSB (l : Launch) (Z : State) (a0 : Array Value) (hw : ∀ d ∈ tables_1, d.before a0 Z = true) (ws : List Jvm.Cond) (a0r : Addr) (p1 : Addr) (h0 : Heap) (n0 : Nat) (O0 : Old Z n0 h0) (Er : Exa Z h0 a0r "java/lang/String") (gr : n0 ≤ a0r) (Fr_value : Fld Z h0 a0r "java/lang/String" "value" "[B" .null) (Fr_coder : Fld Z h0 a0r "java/lang/String" "coder" "B" (.int 0)) :
    MetFree l (⟨"java/lang/String", "<init>", "([BB)V"⟩ : MethodName) (head1 (Jvm.Cond.code (⟨"java/lang/String", "<init>", "([BB)V"⟩ : MethodName) jdk_42_method_151_code 3 none :: ws) ({ frames := 1, cells := 0, slots := 0, locals := 12 } : Room)) (fun a U => a = #[(.ref a0r), (.ref p1), (.int 0)] ∧ Z.Warmed39 U.vm ∧ U.heap = h0) (fun _ _ _ _ _ => True) (fun _ U o U' => ∃ v L, o = .returned v ∧ QSB Z a0r p1 h0 n0 v U'.heap L ∧ FrameEnd U o U' L ({ frames := 1, cells := 0, slots := 0, locals := 12 } : Room).cells ({ frames := 1, cells := 0, slots := 0, locals := 12 } : Room).slots) := by
  refine MetFree.of_bodySF (plainFor_of_name pn_String) hisR ?_
  intro p e s m args below meth c s₁ Bd hml0 hP hK
  obtain ⟨rfl, hZ, hh⟩ := hP
  have hx := Bd.exec
  have hby := Bd.bytes
  have hlk : meth.locks = false := BodyLoose.notSynchronized Bd
  have hml : c.maxLocals = 3 := hml0
  have hown : s.vm.findClass "java/lang/String" = some m.cls := findClass_of_methodNamed Bd.named
  have hnm := (name_of_methodNamed Bd.named Bd.method).1
  have X0 : Stand p l e ({ frames := 1, cells := 0, slots := 0, locals := 12 } : Room) s m #[(.ref a0r), (.ref p1), (.int 0)] below meth c s₁ [] 0 0 := Stand.of_body Bd
  have e0 : s₁.heap = h0 := by rw [← hh, Bd.state]; rfl
  have N0 := Fr.nil n0
  show Goes p e below s (QSB Z a0r p1 h0 n0) ({ frames := 1, cells := 0, slots := 0, locals := 12 } : Room).cells ({ frames := 1, cells := 0, slots := 0, locals := 12 } : Room).slots (s₁.setTop (entryFrame m #[(.ref a0r), (.ref p1), (.int 0)] 3))
  refine Goes.enter (g' := (mkF m 0 #[.val (.ref a0r), .val (.ref p1), .val (.int 0)] [])) (ef_rmSB m a0r p1 ((0 : Int32))) ?_
  refine Goes.step (fun _ k => pw_aloadN X0.here hx (hb hby d26_0) rfl rfl _ k) ?_
  obtain ⟨T1, X1, e1, st1⟩ := initO X0 hx hZ hown (own_w15 hw) (own_w16 hw) (own_w17 hw) e0 (g := (mkF m 1 #[.val (.ref a0r), .val (.ref p1), .val (.int 0)] [(.ref a0r)])) rfl (by rw [hml]; rfl) rfl (hb hby d26_1) (by decide) (W := 0) (by show 2 * 0 + _ ≤ _; exact Nat.le_of_eq rfl) (by decide)
  refine Goes.step (B := T1.setTop (mkF m 4 #[.val (.ref a0r), .val (.ref p1), .val (.int 0)] [])) st1 ?_
  refine Goes.step (fun _ k => pw_aloadN X1.here hx (hb hby d26_4) rfl rfl _ (pw_aloadN X1.here hx (hb hby d26_5) rfl rfl _ k)) ?_
  obtain ⟨T2, h2, X2, e2, W2, st2⟩ := putF X1 hx hZ hown (host := "") (Or.inl (own_w32 hw)) Via.refl e1 Fr_value Er (Or.inr ⟨(own_w33 hw), rfl, hnm⟩) (own_w6 hw) (ty := (.array .byte)) (by decide) rfl rfl (g := (mkF m 6 #[.val (.ref a0r), .val (.ref p1), .val (.int 0)] [(.ref p1), (.ref a0r)])) rfl rfl (hb hby d26_6)
  have Fw2 := Fr_value.same W2
  have N2 := Fr.snoc X2 N0 gr
  have O_2 := O0.wr W2 gr
  have K_2 := (Keep.refl h0 [a0r]).wr W2 (Or.inl (List.mem_of_getElem? (i := 0) rfl))
  refine Goes.step (B := T2.setTop (mkF m 9 #[.val (.ref a0r), .val (.ref p1), .val (.int 0)] [])) st2 ?_
  refine Goes.step (fun _ k => pw_aloadN X2.here hx (hb hby d26_9) rfl rfl _ (pw_iloadN X2.here hx (hb hby d26_10) rfl _ k)) ?_
  have f3 := (Er.wr W2)
  have f4 := (Fr_coder.other W2 (Or.inr (slot_ne (Or.inr (own_w31 hw)) (Or.inr (own_w33 hw)) (by decide) (t := .byte) (t' := (.array .byte)) (by decide) (by decide))))
  obtain ⟨T5, h5, X5, e5, W5, st5⟩ := putFN X2 hx hZ hown (own_w30 hw) Via.refl e2 f4 f3 (Or.inr ⟨(own_w31 hw), rfl, hnm⟩) (own_w6 hw) (ty := .byte) (v' := (.int 0)) (by decide) rfl (by decide) (g := (mkF m 11 #[.val (.ref a0r), .val (.ref p1), .val (.int 0)] [(.int 0), (.ref a0r)])) rfl rfl (hb hby d26_11)
  have Fw5 := f4.same W5
  have N5 := Fr.snoc X5 N2 gr
  have O_5 := O_2.wr W5 gr
  have K_5 := K_2.wr W5 (Or.inl (List.mem_of_getElem? (i := 0) rfl))
  refine Goes.step (B := T5.setTop (mkF m 14 #[.val (.ref a0r), .val (.ref p1), .val (.int 0)] [])) st5 ?_
  have f6 := (f3.wr W5)
  have f7 := (Fw2.other W5 (Or.inr (slot_ne (Or.inr (own_w33 hw)) (Or.inr (own_w31 hw)) (by decide) (t := (.array .byte)) (t' := .byte) (by decide) (by decide))))
  exact Goes.retV X5 hx e5 Bd.returns hlk (hb hby d26_14) (by decide) (by decide) (⟨rfl, N5, K_5, f6, f7, Fw5⟩)
theorem d22_0 : decode jdk_43_method_47_code 0 = .ok (.iload_n 2, 1) := by decide +kernel
theorem d22_1 : decode jdk_43_method_47_code 1 = .ok (.ifCond .ne 6, 3) := by decide +kernel
theorem d22_4 : decode jdk_43_method_47_code 4 = .ok (.ldc 151, 2) := by decide +kernel
theorem own_w138 {Z : State} {a0 : Array Value} (hw : ∀ d ∈ tables_1, d.before a0 Z = true) : (Jvm.Cond.stringLink "java/lang/StringLatin1" (151 : Nat) "").before a0 Z = true := hw _ (List.mem_of_getElem? (i := 138) rfl)
theorem d22_6 : decode jdk_43_method_47_code 6 = .ok (.areturn, 1) := by decide +kernel
theorem d22_7 : decode jdk_43_method_47_code 7 = .ok (.new 1, 3) := by decide +kernel
theorem own_w98 {Z : State} {a0 : Array Value} (hw : ∀ d ∈ tables_1, d.before a0 Z = true) : (Jvm.Cond.classLink "java/lang/StringLatin1" (1 : Nat) "java/lang/String").before a0 Z = true := hw _ (List.mem_of_getElem? (i := 98) rfl)
theorem d22_10 : decode jdk_43_method_47_code 10 = .ok (.dup, 1) := by decide +kernel
theorem d22_11 : decode jdk_43_method_47_code 11 = .ok (.aload_n 0, 1) := by decide +kernel
theorem d22_12 : decode jdk_43_method_47_code 12 = .ok (.iload_n 1, 1) := by decide +kernel
theorem d22_13 : decode jdk_43_method_47_code 13 = .ok (.iload_n 1, 1) := by decide +kernel
theorem d22_14 : decode jdk_43_method_47_code 14 = .ok (.iload_n 2, 1) := by decide +kernel
theorem d22_15 : decode jdk_43_method_47_code 15 = .ok (.iadd, 1) := by decide +kernel
theorem d22_16 : decode jdk_43_method_47_code 16 = .ok (.invokestatic 232, 3) := by decide +kernel
theorem own_w99 {Z : State} {a0 : Array Value} (hw : ∀ d ∈ tables_1, d.before a0 Z = true) : (Jvm.Cond.methodLink "java/lang/StringLatin1" (232 : Nat) ({ cls := "java/util/Arrays", name := "copyOfRange", desc := "([BII)[B" } : Jvm.MethodName)).before a0 Z = true := hw _ (List.mem_of_getElem? (i := 99) rfl)
theorem own_w102 {Z : State} {a0 : Array Value} (hw : ∀ d ∈ tables_1, d.before a0 Z = true) : (Jvm.Cond.code ({ cls := "java/util/Arrays", name := "copyOfRange", desc := "([BII)[B" } : Jvm.MethodName) jdk_65_method_132_code (3 : Nat) (Option.some (Jvm.ClassFile.FieldType.array Jvm.ClassFile.FieldType.byte))).before a0 Z = true := hw _ (List.mem_of_getElem? (i := 102) rfl)
theorem own_w100 {Z : State} {a0 : Array Value} (hw : ∀ d ∈ tables_1, d.before a0 Z = true) : (Jvm.Cond.static ({ cls := "java/util/Arrays", name := "copyOfRange", desc := "([BII)[B" } : Jvm.MethodName)).before a0 Z = true := hw _ (List.mem_of_getElem? (i := 100) rfl)
theorem d22_19 : decode jdk_43_method_47_code 19 = .ok (.iconst 0, 1) := by decide +kernel
theorem d22_20 : decode jdk_43_method_47_code 20 = .ok (.invokespecial 112, 3) := by decide +kernel
theorem own_w114 {Z : State} {a0 : Array Value} (hw : ∀ d ∈ tables_1, d.before a0 Z = true) : (Jvm.Cond.methodLink "java/lang/StringLatin1" (112 : Nat) ({ cls := "java/lang/String", name := "<init>", desc := "([BB)V" } : Jvm.MethodName)).before a0 Z = true := hw _ (List.mem_of_getElem? (i := 114) rfl)
theorem own_w116 {Z : State} {a0 : Array Value} (hw : ∀ d ∈ tables_1, d.before a0 Z = true) : (Jvm.Cond.code ({ cls := "java/lang/String", name := "<init>", desc := "([BB)V" } : Jvm.MethodName) jdk_42_method_151_code (3 : Nat) (Option.none : Option Jvm.ClassFile.FieldType)).before a0 Z = true := hw _ (List.mem_of_getElem? (i := 116) rfl)
theorem pd_12 : parseMethodDescriptor "([BB)V" = some ⟨[(.array .byte), .byte], none⟩ := by decide +kernel
theorem own_w115 {Z : State} {a0 : Array Value} (hw : ∀ d ∈ tables_1, d.before a0 Z = true) : (Jvm.Cond.instanceMethod ({ cls := "java/lang/String", name := "<init>", desc := "([BB)V" } : Jvm.MethodName)).before a0 Z = true := hw _ (List.mem_of_getElem? (i := 115) rfl)
theorem d22_23 : decode jdk_43_method_47_code 23 = .ok (.areturn, 1) := by decide +kernel
theorem ef_rmNS (m : MethodId) (x0 : Addr) (x1 : Int32) (x2 : Int32) : entryFrame m #[(.ref x0), (.int x1), (.int x2)] 3 = mkF m 0 #[.val (.ref x0), .val (.int x1), .val (.int x2)] [] := by first | (simp [entryFrame, mkF, argsToLocals, Value.category]; done) | rfl
def QNS (Z : State) (b1 : Addr) (k1 : ClassId) (z1 : Int32) (xs : List Int32) (bb : Int32) (mm : Int32) (h0 : Heap) (n0 : Nat) (v : Option Value) (h : Heap) (L : List Loc) : Prop := ∃ (r vb : Addr) (kv : ClassId), v = some (.ref r) ∧ Fr n0 L ∧ Keep h0 h [] ∧ Exa Z h r "java/lang/String" ∧ Fld Z h r "java/lang/String" "value" "[B" (.ref vb) ∧ Fld Z h r "java/lang/String" "coder" "B" (.int (0 : Int32)) ∧ Arv Z h vb kv .byte mm ((own_sub xs bb mm).map Value.int) (.int (0 : Int32))
set_option maxRecDepth 65536 in
set_option maxHeartbeats 40000000 in
theorem rmNS (l : Launch) (Z : State) (a0 : Array Value) (hw : ∀ d ∈ tables_1, d.before a0 Z = true) (ws : List Jvm.Cond) (b1 : Addr) (k1 : ClassId) (z1 : Int32) (xs : List Int32) (bb : Int32) (mm : Int32) (h0 : Heap) (n0 : Nat) (O0 : Old Z n0 h0) (V1 : Arv Z h0 b1 k1 .byte z1 (xs.map Value.int) (.int (0 : Int32))) (hb0 : 0 ≤ bb.toInt) (hm0 : 0 ≤ mm.toInt) (hbm : bb.toInt + mm.toInt ≤ z1.toInt) (hz5 : z1.toInt ≤ 5) (hnn : ¬ (bb = (0 : Int32) ∧ mm = z1)) :
    MetFree l (⟨"java/lang/StringLatin1", "newString", "([BII)Ljava/lang/String;"⟩ : MethodName) (head1 (Jvm.Cond.code (⟨"java/lang/StringLatin1", "newString", "([BII)Ljava/lang/String;"⟩ : MethodName) jdk_43_method_47_code 3 (some (.object "java/lang/String")) :: ws) ({ frames := 3, cells := 2, slots := 9, locals := 50 } : Room)) (fun a U => a = #[(.ref b1), (.int bb), (.int mm)] ∧ Z.Warmed39 U.vm ∧ U.heap = h0 ∧ CHv Z own_EL U.vm h0) (fun _ _ _ _ _ => True) (fun _ U o U' => ∃ v L, o = .returned v ∧ QNS Z b1 k1 z1 xs bb mm h0 n0 v U'.heap L ∧ CHr Z own_EL U.vm U.heap U'.vm U'.heap ∧ ReturnedEndW U o U' L ({ frames := 3, cells := 2, slots := 9, locals := 50 } : Room).cells ({ frames := 3, cells := 2, slots := 9, locals := 50 } : Room).slots) := by
  refine MetFree.of_bodySF (plainFor_of_name pn_StringLatin1) hisR ?_
  intro p e s m args below meth c s₁ Bd hml0 hP hK
  obtain ⟨rfl, hZ, hh, hH0⟩ := hP
  have hx := Bd.exec
  have hby := Bd.bytes
  have hlk : meth.locks = false := BodyLoose.notSynchronized Bd
  have hml : c.maxLocals = 3 := hml0
  have hown : s.vm.findClass "java/lang/StringLatin1" = some m.cls := findClass_of_methodNamed Bd.named
  have hnm := (name_of_methodNamed Bd.named Bd.method).1
  have X0 : Stand p l e ({ frames := 3, cells := 2, slots := 9, locals := 50 } : Room) (s.setVm s.vm) m #[(.ref b1), (.int bb), (.int mm)] below meth c s₁ [] 0 0 := Stand.of_body Bd
  have e0 : s₁.heap = h0 := by rw [← hh, Bd.state]; rfl
  have N0 := Fr.nil n0
  have hS0 : s.Since s.vm h0.size := (State.WarmedH.refl s).since _
  show GoesH p e below s Z own_EL (QNS Z b1 k1 z1 xs bb mm h0 n0) ({ frames := 3, cells := 2, slots := 9, locals := 50 } : Room).cells ({ frames := 3, cells := 2, slots := 9, locals := 50 } : Room).slots (s₁.setTop (entryFrame m #[(.ref b1), (.int bb), (.int mm)] 3))
  refine GoesH.enter (g' := (mkF m 0 #[.val (.ref b1), .val (.int bb), .val (.int mm)] [])) (ef_rmNS m b1 bb mm) ?_
  refine GoesH.step (fun _ k => pw_iloadN X0.here hx (hb hby d22_0) rfl _ k) ?_
  by_cases hc1_0 : mm = (0 : Int32)
  · refine GoesH.step (fun _ k => pw_ifNo X0.here hx (hb hby d22_1) ((if0 _ _).trans (teq hc1_0).2) _ k) ?_
    obtain ⟨b2, T2, h2, k2, v2, c2, X2, e2, E2, hS2, hk2, hZ2, hown2, Ea2, Fc2, Fv2, Va2, la2, lb2, H2, I2, Sf2, st2⟩ := ldcCH X0 hx hZ hown (own_w138 hw) (own_wS hw) e0 hS0 (Nat.le_refl _) (own_EW hw) (List.mem_of_getElem? (i := 1) rfl) (CHr.refl hH0).1 (vs := []) (z := (0 : Int32)) ⟨by decide, by decide⟩ (by decide) (by decide) (g := (mkF m 4 #[.val (.ref b1), .val (.int bb), .val (.int mm)] [])) rfl (hb hby d22_4) (n := 0) (by decide) (by decide) (by decide) (by decide)
    have O_2 := O0.ext E2
    have CH2 := ((CHr.refl hH0).trans H2)
    have K_2 := (Keep.refl h0 []).ext E2
    refine GoesH.step (B := T2.setTop (mkF m 6 #[.val (.ref b1), .val (.int bb), .val (.int mm)] [(.ref b2)])) st2 ?_
    exact GoesH.retA X2 hS2 hk2 hZ2 (own_EW hw) (by rw [show s.heap = h0 from hh]; exact CH2) hx e2 Bd.returns rfl rfl hlk (hb hby d22_6) (by decide) (by decide) (⟨b2, v2, c2, rfl, N0, K_2, Ea2, Fv2, Fc2, (by rw [hc1_0, own_sub0]; exact Va2)⟩)
  · refine GoesH.step (fun _ k => pw_ifYes X0.here hx (pc' := 7) (hb hby d22_1) ((if0 _ _).trans (feq hc1_0).2) (by decide) (by decide) _ k) ?_
    obtain ⟨T3, h3, X3, e3, E3, A3, D3, -, st3⟩ := newO X0 hx hZ hown (own_w98 hw) (own_w6 hw) (own_w7 hw) e0 (g := (mkF m 7 #[.val (.ref b1), .val (.int bb), .val (.int mm)] [])) rfl (hb hby d22_7) (by decide) (by decide)
    obtain ⟨b3, g3⟩ : ∃ z, z = h0.size := ⟨_, rfl⟩
    rw [← g3] at A3 D3 st3
    have ne_b1_b3 : b1 ≠ b3 := Nat.ne_of_lt (Nat.lt_of_lt_of_le V1.lt (Nat.le_of_eq g3.symm))
    have g_b3 : n0 ≤ b3 := Nat.le_trans (own_z O0) (Nat.le_of_eq g3.symm)
    have Sf_b3 := Safe.ext E3 (CHr.refl hH0).1 (Safe.new (Nat.le_of_eq g3.symm))
    have CH4 := (CHr.refl hH0).trans (CHr.ext E3 (CHr.refl hH0).1)
    have O_3 := O0.ext E3
    have sz_b3 : h0.size ≤ b3 := Nat.le_trans (Keep.refl h0 []).1 (Nat.le_of_eq g3.symm)
    have K_3 := (Keep.refl h0 []).ext E3
    have F3_coder : Fld Z h3 b3 "java/lang/String" "coder" "B" (.int 0) := D3 (Or.inr (own_w31 hw)) (ty := .byte) (by decide)
    have F3_value : Fld Z h3 b3 "java/lang/String" "value" "[B" .null := D3 (Or.inr (own_w33 hw)) (ty := (.array .byte)) (by decide)
    refine GoesH.step (B := T3.setTop (mkF m 10 #[.val (.ref b1), .val (.int bb), .val (.int mm)] [(.ref b3)])) st3 ?_
    refine GoesH.step (fun _ k => pw_dup X3.here hx (hb hby d22_10) rfl _ (pw_aloadN X3.here hx (hb hby d22_11) rfl rfl _ (pw_iloadN X3.here hx (hb hby d22_12) rfl _ (pw_iloadN X3.here hx (hb hby d22_13) rfl _ (pw_iloadN X3.here hx (hb hby d22_14) rfl _ (pw_iadd X3.here hx (hb hby d22_15) _ k)))))) ?_
    obtain ⟨ee, hee⟩ : ∃ z, z = (bb + mm) := ⟨_, rfl⟩
    rw [← hee]
    have te := own_sm hee hb0 hm0 (by omega)
    have hne' : ¬ (bb = (0 : Int32) ∧ ee = z1) := fun q => hnn ⟨q.1, Int32.toInt_inj.mp (by have q1 := q.2; have q2 := q.1; subst q1; rw [q2, own_i0] at te; omega)⟩
    have f6 := (V1.ext E3)
    have lt_b1_5 := f6.lt
    have lt_b3_5 := A3.lt
    obtain ⟨_, _, ⟨T5, qL5, qk5, qn5⟩, -, X5, ⟨Lc5, hQ5, ql5, qy5, qz5⟩, st5⟩ := Jvm.LawKit.callS X3 hx (y := (⟨"java/util/Arrays", "copyOfRange", "([BII)[B"⟩ : MethodName)) hown (mvT hZ (own_w99 hw)) (mvT hZ (own_w100 hw)) (mvT hZ (own_w101 hw)) (mvT hZ (own_w102 hw)) (by decide) (backOf (W := 2) (rmCR l Z a0 hw [] b1 k1 z1 xs bb ee h3 n0 O_3 f6 hb0 (by omega) (by omega) hz5 hne') hZ (own_w102 hw) (own_w101 hw) (by decide) (by decide)) (g := (mkF m 16 #[.val (.ref b1), .val (.int bb), .val (.int mm)] [(.int ee), (.int bb), (.ref b1), (.ref b3), (.ref b3)])) rfl (by rw [hml]; rfl) (argsL := [(.ref b1), (.int bb), (.int ee)]) (rest := [(.ref b3), (.ref b3)]) (lenOf pd_11 rfl) rfl (by show 2 * 0 + _ ≤ _; exact Nat.le_of_eq rfl) (hb hby d22_16) (fun _ _ => ⟨rfl, e3, (by decide : 1 + 1 ≤ _), (by decide : 4 + 5 ≤ _)⟩)
    dsimp only [Pt.U, Pt.locs, Pt.cells, Pt.slots] at X5 ql5 qy5 qz5 st5 hQ5
    rw [ql5, qy5, qz5] at X5
    obtain ⟨fb5, fk5, mq5, rfl, Nq5, Kp5, gb5, sz_fb5, hq5, Vb5⟩ := hQ5
    have ne_b1_fb5 : b1 ≠ fb5 := Nat.ne_of_lt (Nat.lt_of_lt_of_le lt_b1_5 sz_fb5)
    have ne_b3_fb5 : b3 ≠ fb5 := Nat.ne_of_lt (Nat.lt_of_lt_of_le lt_b3_5 sz_fb5)
    have Sf7 := Safe.keep Kp5 sf0 CH4.1 Sf_b3
    have CH8 := CH4.trans (CHr.keep Kp5 sf0 CH4.1)
    have O_5 := O_3.keep Kp5 all0
    have K_5 := K_3.trans Kp5 all0
    have N5 := Fr.app N0 Nq5
    refine GoesH.step (B := T5.setTop (mkF m 19 #[.val (.ref b1), .val (.int bb), .val (.int mm)] [(.ref fb5), (.ref b3), (.ref b3)])) st5 ?_
    refine GoesH.step (fun _ k => pw_iconst X5.here hx (v := (0 : Int32)) (hb hby d22_19) rfl _ k) ?_
    have f10 := (A3.keep Kp5)
    have f11 := (F3_value.keep Kp5 nin0)
    have f12 := (F3_coder.keep Kp5 nin0)
    obtain ⟨_, _, ⟨T9, qL9, qk9, qn9⟩, -, X9, ⟨Lc9, hQ9, ql9, qy9, qz9⟩, st9⟩ := X5.specialBack hx (y := (⟨"java/lang/String", "<init>", "([BB)V"⟩ : MethodName)) rfl hown (mvT hZ (own_w114 hw)) (mvT hZ (own_w115 hw)) (mvT hZ (own_w116 hw)) (by decide) (backOf (W := 1) (rmSB l Z a0 hw [] b3 fb5 T5.heap n0 O_5 f10 g_b3 f11 f12) hZ (own_w116 hw) (own_w7 hw) (by decide) (by decide)) (g := (mkF m 20 #[.val (.ref b1), .val (.int bb), .val (.int mm)] [(.int 0), (.ref fb5), (.ref b3), (.ref b3)])) rfl (by rw [hml]; rfl) (Steps.refl _) (a := b3) (argsL := [(.ref fb5), (.int 0)]) (rest := [(.ref b3)]) (lenOf pd_12 rfl) rfl (by show 2 * 0 + _ ≤ _; exact Nat.le_of_eq rfl) (hb hby d22_20) (fun _ _ => ⟨rfl, rfl, (by decide : 2 + 0 ≤ _), (by decide : 9 + 0 ≤ _)⟩)
    dsimp only [Pt.U, Pt.locs, Pt.cells, Pt.slots] at X9 ql9 qy9 qz9 st9 hQ9
    rw [ql9, qy9, qz9] at X9
    obtain ⟨rfl, Nq9, Kp9, Ex9, Fc9_value, Fc9_coder⟩ := hQ9
    have Sf13 := Safe.keep Kp9 (sfS Sf7 sf0) CH8.1 Sf7
    have CH14 := CH8.trans (CHr.keep Kp9 (sfS Sf7 sf0) CH8.1)
    have O_9 := O_5.keep Kp9 (allS g_b3 all0)
    have K_9 := K_5.trans Kp9 (allS (P := fun x => x ∈ _ ∨ _) (Or.inr sz_b3) all0)
    have N9 := Fr.app N5 Nq9
    refine GoesH.via (B := T9.setTop (mkF m 23 #[.val (.ref b1), .val (.int bb), .val (.int mm)] [(.ref b3)])) st9 ?_
    have f15 := (Vb5.keep Kp9 (ninS (Ne.symm ne_b3_fb5) nin0))
    exact GoesH.retA X9 hS0 (Nat.le_trans (Nat.le_trans (Nat.le_trans (Nat.le_refl _) E3.1) Kp5.1) Kp9.1) hZ (own_EW hw) (by rw [show s.heap = h0 from hh]; exact CH14) hx rfl Bd.returns rfl rfl hlk (hb hby d22_23) (by decide) (by decide) (⟨b3, fb5, fk5, rfl, N9, K_9, Ex9, Fc9_value, Fc9_coder, (by have q := f15; rw [own_sd hee hq5 hb0 hm0 (by omega)] at q; exact q)⟩)
theorem d19_0 : decode jdk_42_method_92_code 0 = .ok (.aload_n 0, 1) := by decide +kernel
theorem d19_1 : decode jdk_42_method_92_code 1 = .ok (.invokevirtual 505, 3) := by decide +kernel
theorem own_w43 {Z : State} {a0 : Array Value} (hw : ∀ d ∈ tables_1, d.before a0 Z = true) : (Jvm.Cond.methodLink "java/lang/String" (505 : Nat) ({ cls := "java/lang/String", name := "length", desc := "()I" } : Jvm.MethodName)).before a0 Z = true := hw _ (List.mem_of_getElem? (i := 43) rfl)
theorem own_w47 {Z : State} {a0 : Array Value} (hw : ∀ d ∈ tables_1, d.before a0 Z = true) : (Jvm.Cond.code ({ cls := "java/lang/String", name := "length", desc := "()I" } : Jvm.MethodName) jdk_42_method_54_code (1 : Nat) (Option.some Jvm.ClassFile.FieldType.int)).before a0 Z = true := hw _ (List.mem_of_getElem? (i := 47) rfl)
theorem pd_13 : parseMethodDescriptor "()I" = some ⟨[], some .int⟩ := by decide +kernel
theorem own_w46 {Z : State} {a0 : Array Value} (hw : ∀ d ∈ tables_1, d.before a0 Z = true) : (Jvm.Cond.selects "java/lang/String" ({ cls := "java/lang/String", name := "length", desc := "()I" } : Jvm.MethodName) ({ cls := "java/lang/String", name := "length", desc := "()I" } : Jvm.MethodName)).before a0 Z = true := hw _ (List.mem_of_getElem? (i := 46) rfl)
theorem own_w44 {Z : State} {a0 : Array Value} (hw : ∀ d ∈ tables_1, d.before a0 Z = true) : (Jvm.Cond.declares ({ cls := "java/lang/String", name := "length", desc := "()I" } : Jvm.MethodName)).before a0 Z = true := hw _ (List.mem_of_getElem? (i := 44) rfl)
theorem own_w45 {Z : State} {a0 : Array Value} (hw : ∀ d ∈ tables_1, d.before a0 Z = true) : (Jvm.Cond.instanceMethod ({ cls := "java/lang/String", name := "length", desc := "()I" } : Jvm.MethodName)).before a0 Z = true := hw _ (List.mem_of_getElem? (i := 45) rfl)
theorem d19_4 : decode jdk_42_method_92_code 4 = .ok (.istore_n 3, 1) := by decide +kernel
theorem d19_5 : decode jdk_42_method_92_code 5 = .ok (.iload_n 1, 1) := by decide +kernel
theorem d19_6 : decode jdk_42_method_92_code 6 = .ok (.iload_n 2, 1) := by decide +kernel
theorem d19_7 : decode jdk_42_method_92_code 7 = .ok (.iload_n 3, 1) := by decide +kernel
theorem d19_8 : decode jdk_42_method_92_code 8 = .ok (.invokestatic 521, 3) := by decide +kernel
theorem own_w87 {Z : State} {a0 : Array Value} (hw : ∀ d ∈ tables_1, d.before a0 Z = true) : (Jvm.Cond.methodLink "java/lang/String" (521 : Nat) ({ cls := "java/lang/String", name := "checkBoundsBeginEnd", desc := "(III)V" } : Jvm.MethodName)).before a0 Z = true := hw _ (List.mem_of_getElem? (i := 87) rfl)
theorem own_w89 {Z : State} {a0 : Array Value} (hw : ∀ d ∈ tables_1, d.before a0 Z = true) : (Jvm.Cond.code ({ cls := "java/lang/String", name := "checkBoundsBeginEnd", desc := "(III)V" } : Jvm.MethodName) jdk_42_method_158_code (3 : Nat) (Option.none : Option Jvm.ClassFile.FieldType)).before a0 Z = true := hw _ (List.mem_of_getElem? (i := 89) rfl)
theorem pd_14 : parseMethodDescriptor "(III)V" = some ⟨[.int, .int, .int], none⟩ := by decide +kernel
theorem own_w88 {Z : State} {a0 : Array Value} (hw : ∀ d ∈ tables_1, d.before a0 Z = true) : (Jvm.Cond.static ({ cls := "java/lang/String", name := "checkBoundsBeginEnd", desc := "(III)V" } : Jvm.MethodName)).before a0 Z = true := hw _ (List.mem_of_getElem? (i := 88) rfl)
theorem d19_11 : decode jdk_42_method_92_code 11 = .ok (.iload_n 1, 1) := by decide +kernel
theorem d19_12 : decode jdk_42_method_92_code 12 = .ok (.ifCond .ne 10, 3) := by decide +kernel
theorem d19_15 : decode jdk_42_method_92_code 15 = .ok (.iload_n 2, 1) := by decide +kernel
theorem d19_16 : decode jdk_42_method_92_code 16 = .ok (.iload_n 3, 1) := by decide +kernel
theorem d19_17 : decode jdk_42_method_92_code 17 = .ok (.if_icmp .ne 5, 3) := by decide +kernel
theorem d19_20 : decode jdk_42_method_92_code 20 = .ok (.aload_n 0, 1) := by decide +kernel
theorem d19_21 : decode jdk_42_method_92_code 21 = .ok (.areturn, 1) := by decide +kernel
theorem d19_22 : decode jdk_42_method_92_code 22 = .ok (.iload_n 2, 1) := by decide +kernel
theorem d19_23 : decode jdk_42_method_92_code 23 = .ok (.iload_n 1, 1) := by decide +kernel
theorem d19_24 : decode jdk_42_method_92_code 24 = .ok (.isub, 1) := by decide +kernel
theorem d19_25 : decode jdk_42_method_92_code 25 = .ok (.istore 4, 2) := by decide +kernel
theorem d19_27 : decode jdk_42_method_92_code 27 = .ok (.aload_n 0, 1) := by decide +kernel
theorem d19_28 : decode jdk_42_method_92_code 28 = .ok (.invokevirtual 492, 3) := by decide +kernel
theorem d19_31 : decode jdk_42_method_92_code 31 = .ok (.ifCond .eq 16, 3) := by decide +kernel
theorem d19_34 : decode jdk_42_method_92_code 34 = .ok (.aload_n 0, 1) := by decide +kernel
theorem d19_35 : decode jdk_42_method_92_code 35 = .ok (.getfield 9, 3) := by decide +kernel
theorem d19_38 : decode jdk_42_method_92_code 38 = .ok (.iload_n 1, 1) := by decide +kernel
theorem d19_39 : decode jdk_42_method_92_code 39 = .ok (.iload 4, 2) := by decide +kernel
theorem d19_41 : decode jdk_42_method_92_code 41 = .ok (.invokestatic 685, 3) := by decide +kernel
theorem own_w95 {Z : State} {a0 : Array Value} (hw : ∀ d ∈ tables_1, d.before a0 Z = true) : (Jvm.Cond.methodLink "java/lang/String" (685 : Nat) ({ cls := "java/lang/StringLatin1", name := "newString", desc := "([BII)Ljava/lang/String;" } : Jvm.MethodName)).before a0 Z = true := hw _ (List.mem_of_getElem? (i := 95) rfl)
theorem own_w97 {Z : State} {a0 : Array Value} (hw : ∀ d ∈ tables_1, d.before a0 Z = true) : (Jvm.Cond.code ({ cls := "java/lang/StringLatin1", name := "newString", desc := "([BII)Ljava/lang/String;" } : Jvm.MethodName) jdk_43_method_47_code (3 : Nat) (Option.some (Jvm.ClassFile.FieldType.object "java/lang/String"))).before a0 Z = true := hw _ (List.mem_of_getElem? (i := 97) rfl)
theorem pd_15 : parseMethodDescriptor "([BII)Ljava/lang/String;" = some ⟨[(.array .byte), .int, .int], some (.object "java/lang/String")⟩ := by decide +kernel
theorem own_w96 {Z : State} {a0 : Array Value} (hw : ∀ d ∈ tables_1, d.before a0 Z = true) : (Jvm.Cond.static ({ cls := "java/lang/StringLatin1", name := "newString", desc := "([BII)Ljava/lang/String;" } : Jvm.MethodName)).before a0 Z = true := hw _ (List.mem_of_getElem? (i := 96) rfl)
theorem d19_44 : decode jdk_42_method_92_code 44 = .ok (.goto 13, 3) := by decide +kernel
theorem d19_57 : decode jdk_42_method_92_code 57 = .ok (.areturn, 1) := by decide +kernel
theorem ef_rmS2 (m : MethodId) (x0 : Addr) (x1 : Int32) (x2 : Int32) : entryFrame m #[(.ref x0), (.int x1), (.int x2)] 5 = mkF m 0 #[.val (.ref x0), .val (.int x1), .val (.int x2), .unset, .unset] [] := by first | (simp [entryFrame, mkF, argsToLocals, Value.category]; done) | rfl
def QS2 (Z : State) (a1 : Addr) (b1 : Addr) (k1 : ClassId) (z1 : Int32) (xs : List Int32) (bb : Int32) (ee : Int32) (cs : Int32) (fm : Value) (h0 : Heap) (n0 : Nat) (v : Option Value) (h : Heap) (L : List Loc) : Prop := ∃ (r vb : Addr) (kv : ClassId) (mm : Int32), mm = ee - bb ∧ v = some (.ref r) ∧ Fr n0 L ∧ Keep h0 h [] ∧ Exa Z h r "java/lang/String" ∧ Fld Z h r "java/lang/String" "value" "[B" (.ref vb) ∧ Fld Z h r "java/lang/String" "coder" "B" (.int (0 : Int32)) ∧ Arv Z h vb kv .byte mm ((own_sub xs bb mm).map Value.int) (.int (0 : Int32))
set_option maxRecDepth 65536 in
set_option maxHeartbeats 40000000 in
theorem rmS2 (l : Launch) (Z : State) (a0 : Array Value) (hw : ∀ d ∈ tables_1, d.before a0 Z = true) (ws : List Jvm.Cond) (a1 : Addr) (b1 : Addr) (k1 : ClassId) (z1 : Int32) (xs : List Int32) (bb : Int32) (ee : Int32) (cs : Int32) (fm : Value) (h0 : Heap) (n0 : Nat) (O0 : Old Z n0 h0) (FS : OwnSt Z cs fm) (E1 : Exa Z h0 a1 "java/lang/String") (Fc1 : Fld Z h0 a1 "java/lang/String" "coder" "B" (.int (0 : Int32))) (Fv1 : Fld Z h0 a1 "java/lang/String" "value" "[B" (.ref b1)) (V1 : Arv Z h0 b1 k1 .byte z1 (xs.map Value.int) (.int (0 : Int32))) (hb0 : 0 ≤ bb.toInt) (hbe : bb.toInt ≤ ee.toInt) (hez : ee.toInt ≤ z1.toInt) (hz5 : z1.toInt ≤ 5) (hzl : z1.toNatClampNeg = xs.length) :
    MetFree l (⟨"java/lang/String", "substring", "(II)Ljava/lang/String;"⟩ : MethodName) (head1 (Jvm.Cond.code (⟨"java/lang/String", "substring", "(II)Ljava/lang/String;"⟩ : MethodName) jdk_42_method_92_code 5 (some (.object "java/lang/String")) :: ws) ({ frames := 4, cells := 2, slots := 9, locals := 64 } : Room)) (fun a U => a = #[(.ref a1), (.int bb), (.int ee)] ∧ Z.Warmed39 U.vm ∧ U.heap = h0 ∧ CHv Z own_EL U.vm h0) (fun _ _ _ _ _ => True) (fun _ U o U' => ∃ v L, o = .returned v ∧ QS2 Z a1 b1 k1 z1 xs bb ee cs fm h0 n0 v U'.heap L ∧ CHr Z own_EL U.vm U.heap U'.vm U'.heap ∧ ReturnedEndW U o U' L ({ frames := 4, cells := 2, slots := 9, locals := 64 } : Room).cells ({ frames := 4, cells := 2, slots := 9, locals := 64 } : Room).slots) := by
  refine MetFree.of_bodySF (plainFor_of_name pn_String) hisR ?_
  intro p e s m args below meth c s₁ Bd hml0 hP hK
  obtain ⟨rfl, hZ, hh, hH0⟩ := hP
  have hx := Bd.exec
  have hby := Bd.bytes
  have hlk : meth.locks = false := BodyLoose.notSynchronized Bd
  have hml : c.maxLocals = 5 := hml0
  have hown : s.vm.findClass "java/lang/String" = some m.cls := findClass_of_methodNamed Bd.named
  have hnm := (name_of_methodNamed Bd.named Bd.method).1
  have X0 : Stand p l e ({ frames := 4, cells := 2, slots := 9, locals := 64 } : Room) (s.setVm s.vm) m #[(.ref a1), (.int bb), (.int ee)] below meth c s₁ [] 0 0 := Stand.of_body Bd
  have e0 : s₁.heap = h0 := by rw [← hh, Bd.state]; rfl
  have N0 := Fr.nil n0
  have hS0 : s.Since s.vm h0.size := (State.WarmedH.refl s).since _
  show GoesH p e below s Z own_EL (QS2 Z a1 b1 k1 z1 xs bb ee cs fm h0 n0) ({ frames := 4, cells := 2, slots := 9, locals := 64 } : Room).cells ({ frames := 4, cells := 2, slots := 9, locals := 64 } : Room).slots (s₁.setTop (entryFrame m #[(.ref a1), (.int bb), (.int ee)] 5))
  refine GoesH.enter (g' := (mkF m 0 #[.val (.ref a1), .val (.int bb), .val (.int ee), .unset, .unset] [])) (ef_rmS2 m a1 bb ee) ?_
  have FS0 := FS
  obtain ⟨S_COMPACT_STRINGS, hcs, S_fm, hfm⟩ := FS0
  refine GoesH.step (fun _ k => pw_aloadN X0.here hx (hb hby d19_0) rfl rfl _ k) ?_
  have f2 := S_COMPACT_STRINGS.ext O0.2
  obtain ⟨cq1, kq1, qa1, qb1, qc1⟩ := isOf hZ e0 E1
  obtain ⟨_, _, ⟨T1, qL1, qk1, qn1⟩, -, X1, ⟨Lc1, hQ1, ql1, qy1, qz1⟩, st1⟩ := X0.virtualBack hx (y := (⟨"java/lang/String", "length", "()I"⟩ : MethodName)) (z := (⟨"java/lang/String", "length", "()I"⟩ : MethodName)) hown (mvT hZ (own_w43 hw)) (mvT hZ (own_w44 hw)) (notFace_of_selects (args := #[]) (mvT hZ (own_w46 hw))) (mvT hZ (own_w46 hw)) (mvT hZ (own_w45 hw)) (by decide) (backOf (W := 0) (rm10 l Z a0 hw [] a1 b1 k1 z1 xs cs h0 n0 O0 f2 hcs E1 Fc1 Fv1 V1) hZ (own_w47 hw) (own_w7 hw) (by decide) (by decide)) qa1 qc1 (g := (mkF m 1 #[.val (.ref a1), .val (.int bb), .val (.int ee), .unset, .unset] [(.ref a1)])) rfl (by rw [hml]; rfl) (Steps.refl _) (argsL := []) (rest := []) (lenOf pd_13 rfl) rfl (by show 2 * 0 + _ ≤ _; exact Nat.le_of_eq rfl) (hb hby d19_1) (fun _ _ => ⟨rfl, e0, (by decide : 0 + 0 ≤ _), (by decide : 0 + 0 ≤ _)⟩)
  dsimp only [Pt.U, Pt.locs, Pt.cells, Pt.slots] at X1 ql1 qy1 qz1 st1 hQ1
  rw [ql1, qy1, qz1] at X1
  obtain ⟨rfl, Nq1, eh1⟩ := hQ1
  have N1 := Fr.app N0 Nq1
  refine GoesH.via (B := T1.setTop (mkF m 4 #[.val (.ref a1), .val (.int bb), .val (.int ee), .unset, .unset] [(.int z1)])) st1 ?_
  refine GoesH.step (fun _ k => pw_istoreN X1.here hx (l' := #[.val (.ref a1), .val (.int bb), .val (.int ee), .val (.int z1), .unset]) (hb hby d19_4) rfl _ (pw_iloadN X1.here hx (hb hby d19_5) rfl _ (pw_iloadN X1.here hx (hb hby d19_6) rfl _ (pw_iloadN X1.here hx (hb hby d19_7) rfl _ k)))) ?_
  obtain ⟨_, _, ⟨T3, qL3, qk3, qn3⟩, -, X3, ⟨Lc3, hQ3, ql3, qy3, qz3⟩, st3⟩ := Jvm.LawKit.callS X1 hx (y := (⟨"java/lang/String", "checkBoundsBeginEnd", "(III)V"⟩ : MethodName)) hown (mvT hZ (own_w87 hw)) (mvT hZ (own_w88 hw)) (mvT hZ (own_w7 hw)) (mvT hZ (own_w89 hw)) (by decide) (backOf (W := 0) (rm20 l Z a0 hw [] bb ee z1 cs fm h0 n0 O0 FS hb0 hbe hez) hZ (own_w89 hw) (own_w7 hw) (by decide) (by decide)) (g := (mkF m 8 #[.val (.ref a1), .val (.int bb), .val (.int ee), .val (.int z1), .unset] [(.int z1), (.int ee), (.int bb)])) rfl (by rw [hml]; rfl) (argsL := [(.int bb), (.int ee), (.int z1)]) (rest := []) (lenOf pd_14 rfl) rfl (by show 2 * 0 + _ ≤ _; exact Nat.le_of_eq rfl) (hb hby d19_8) (fun _ _ => ⟨rfl, eh1, (by decide : 0 + 0 ≤ _), (by decide : 0 + 0 ≤ _)⟩)
  dsimp only [Pt.U, Pt.locs, Pt.cells, Pt.slots] at X3 ql3 qy3 qz3 st3 hQ3
  rw [ql3, qy3, qz3] at X3
  obtain ⟨rfl, Nq3, eh3⟩ := hQ3
  have N3 := Fr.app N1 Nq3
  refine GoesH.step (B := T3.setTop (mkF m 11 #[.val (.ref a1), .val (.int bb), .val (.int ee), .val (.int z1), .unset] [])) st3 ?_
  refine GoesH.step (fun _ k => pw_iloadN X3.here hx (hb hby d19_11) rfl _ k) ?_
  by_cases hc12_3 : bb = (0 : Int32)
  · refine GoesH.step (fun _ k => pw_ifNo X3.here hx (hb hby d19_12) ((if0 _ _).trans (teq hc12_3).2) _ (pw_iloadN X3.here hx (hb hby d19_15) rfl _ (pw_iloadN X3.here hx (hb hby d19_16) rfl _ k))) ?_
    by_cases hc17_4 : ee = z1
    · refine GoesH.step (fun _ k => pw_icmpNo X3.here hx (hb hby d19_17) (teq hc17_4).2 _ (pw_aloadN X3.here hx (hb hby d19_20) rfl rfl _ k)) ?_
      exact GoesH.retA X3 hS0 (Nat.le_refl _) hZ (own_EW hw) (by rw [show s.heap = h0 from hh]; exact (CHr.refl hH0)) hx eh3 Bd.returns rfl rfl hlk (hb hby d19_21) (by decide) (by decide) (⟨a1, b1, k1, z1, (by rw [hc12_3, hc17_4]; exact (Int32.toInt_inj.mp (by have q := own_dif (m := z1 - (0 : Int32)) (e := z1) rfl (by decide) (by rw [own_i0]; omega); rw [own_i0] at q; omega))), rfl, N3, (Keep.refl h0 []), E1, Fv1, Fc1, (by rw [hc12_3, own_suba _ _ hzl]; exact V1)⟩)
    · refine GoesH.step (fun _ k => pw_icmpYes X3.here hx (pc' := 22) (hb hby d19_17) (feq hc17_4).2 (by decide) (by decide) _ (pw_iloadN X3.here hx (hb hby d19_22) rfl _ (pw_iloadN X3.here hx (hb hby d19_23) rfl _ (pw_isub X3.here hx (hb hby d19_24) _ k)))) ?_
      obtain ⟨mm, hmm⟩ : ∃ z, z = (ee - bb) := ⟨_, rfl⟩
      rw [← hmm]
      have tm := own_dif hmm hb0 hbe
      have hnn : ¬ (bb = (0 : Int32) ∧ mm = z1) := (fun q => hc17_4 (by have q2 := q.2; subst q2; exact Int32.toInt_inj.mp (by have q1 := q.1; rw [q1, own_i0] at tm; omega)))
      refine GoesH.step (fun _ k => pw_istore X3.here hx (l' := #[.val (.ref a1), .val (.int bb), .val (.int ee), .val (.int z1), .val (.int mm)]) (hb hby d19_25) rfl _ (pw_aloadN X3.here hx (hb hby d19_27) rfl rfl _ k)) ?_
      obtain ⟨cq6, kq6, qa6, qb6, qc6⟩ := isOf hZ eh3 E1
      obtain ⟨_, _, ⟨T6, qL6, qk6, qn6⟩, -, X6, ⟨Lc6, hQ6, ql6, qy6, qz6⟩, st6⟩ := X3.virtualBack hx (y := (⟨"java/lang/String", "isLatin1", "()Z"⟩ : MethodName)) (z := (⟨"java/lang/String", "isLatin1", "()Z"⟩ : MethodName)) hown (mvT hZ (own_w58 hw)) (mvT hZ (own_w59 hw)) (notFace_of_selects (args := #[]) (mvT hZ (own_w61 hw))) (mvT hZ (own_w61 hw)) (mvT hZ (own_w60 hw)) (by decide) (backOf (W := 0) (rm13 l Z a0 hw [] a1 b1 k1 z1 xs cs h0 n0 O0 f2 hcs E1 Fc1 Fv1 V1) hZ (own_w62 hw) (own_w7 hw) (by decide) (by decide)) qa6 qc6 (g := (mkF m 28 #[.val (.ref a1), .val (.int bb), .val (.int ee), .val (.int z1), .val (.int mm)] [(.ref a1)])) rfl (by rw [hml]; rfl) (Steps.refl _) (argsL := []) (rest := []) (lenOf pd_7 rfl) rfl (by show 2 * 0 + _ ≤ _; exact Nat.le_of_eq rfl) (hb hby d19_28) (fun _ _ => ⟨rfl, eh3, (by decide : 0 + 0 ≤ _), (by decide : 0 + 0 ≤ _)⟩)
      dsimp only [Pt.U, Pt.locs, Pt.cells, Pt.slots] at X6 ql6 qy6 qz6 st6 hQ6
      rw [ql6, qy6, qz6] at X6
      obtain ⟨rfl, Nq6, eh6⟩ := hQ6
      have N6 := Fr.app N3 Nq6
      refine GoesH.via (B := T6.setTop (mkF m 31 #[.val (.ref a1), .val (.int bb), .val (.int ee), .val (.int z1), .val (.int mm)] [(.int 1)])) st6 ?_
      refine GoesH.step (fun _ k => pw_ifNo X6.here hx (hb hby d19_31) ((if0 _ _).trans (feq (by decide)).1) _ (pw_aloadN X6.here hx (hb hby d19_34) rfl rfl _ k)) ?_
      obtain ⟨T7, X7, e7, st7⟩ := getF X6 hx hZ hown (host := "") (Or.inl (own_w32 hw)) Via.refl eh6 Fv1 (g := (mkF m 35 #[.val (.ref a1), .val (.int bb), .val (.int ee), .val (.int z1), .val (.int mm)] [(.ref a1)])) rfl rfl (hb hby d19_35)
      refine GoesH.step (B := T7.setTop (mkF m 38 #[.val (.ref a1), .val (.int bb), .val (.int ee), .val (.int z1), .val (.int mm)] [(.ref b1)])) st7 ?_
      refine GoesH.step (fun _ k => pw_iloadN X7.here hx (hb hby d19_38) rfl _ (pw_iload X7.here hx (hb hby d19_39) rfl _ k)) ?_
      obtain ⟨_, vw8, ⟨T8, qL8, qk8, qn8⟩, -, Xr8, S28, sz8, ⟨Lc8, hQ8, ql8, qy8, qz8, Hc8⟩, st8⟩ := callSS X7 hx (y := (⟨"java/lang/StringLatin1", "newString", "([BII)Ljava/lang/String;"⟩ : MethodName)) hown (mvT hZ (own_w95 hw)) (mvT hZ (own_w96 hw)) (mvT hZ (own_w65 hw)) (mvT hZ (own_w97 hw)) (by decide) (backOfSH (W := 0) (rmNS l Z a0 hw [] b1 k1 z1 xs bb mm h0 n0 O0 V1 hb0 (by omega) (by omega) hz5 hnn) hZ (own_w97 hw) (own_w65 hw) (by decide) (by decide) (own_EW hw) (CHr.refl hH0).1) (g := (mkF m 41 #[.val (.ref a1), .val (.int bb), .val (.int ee), .val (.int z1), .val (.int mm)] [(.int mm), (.int bb), (.ref b1)])) rfl (by rw [hml]; rfl) (argsL := [(.ref b1), (.int bb), (.int mm)]) (rest := []) (lenOf pd_15 rfl) rfl (by show 2 * 0 + _ ≤ _; exact Nat.le_of_eq rfl) (hb hby d19_41) (fun _ _ => ⟨rfl, e7, (by decide : 0 + 2 ≤ _), (by decide : 0 + 9 ≤ _)⟩)
      dsimp only [Pt.U, Pt.locs, Pt.cells, Pt.slots] at Xr8 S28 sz8 ql8 qy8 qz8 st8 hQ8 Hc8
      rw [ql8, qy8, qz8] at Xr8
      obtain ⟨X8, hS8, hZ8, hown8⟩ := rebS hS0 (by rw [e7]; exact (Nat.le_refl _)) Xr8 S28 sz8 hZ hown
      have CHc8 := (CHr.refl hH0).trans Hc8
      obtain ⟨nr8, nv8, nk8, rfl, Nq8, Kp8, Er8, Fv8, Fc8, Vr8⟩ := hQ8
      have O_8 := O0.keep Kp8 all0
      have K_8 := (Keep.refl h0 []).trans Kp8 all0
      have N8 := Fr.app N6 Nq8
      refine GoesH.via (B := T8.setTop (mkF m 44 #[.val (.ref a1), .val (.int bb), .val (.int ee), .val (.int z1), .val (.int mm)] [(.ref nr8)])) st8 ?_
      refine GoesH.step (fun _ k => pw_goto X8.here hx (pc' := 57) (hb hby d19_44) (by decide) (by decide) _ k) ?_
      exact GoesH.retA X8 hS8 (Nat.le_refl _) hZ8 (own_EW hw) (by rw [show s.heap = h0 from hh]; exact CHc8) hx rfl Bd.returns rfl rfl hlk (hb hby d19_57) (by decide) (by decide) (⟨nr8, nv8, nk8, mm, hmm, rfl, N8, K_8, Er8, Fv8, Fc8, Vr8⟩)
  · refine GoesH.step (fun _ k => pw_ifYes X3.here hx (pc' := 22) (hb hby d19_12) ((if0 _ _).trans (feq hc12_3).2) (by decide) (by decide) _ (pw_iloadN X3.here hx (hb hby d19_22) rfl _ (pw_iloadN X3.here hx (hb hby d19_23) rfl _ (pw_isub X3.here hx (hb hby d19_24) _ k)))) ?_
    obtain ⟨mm, hmm⟩ : ∃ z, z = (ee - bb) := ⟨_, rfl⟩
    rw [← hmm]
    have tm := own_dif hmm hb0 hbe
    have hnn : ¬ (bb = (0 : Int32) ∧ mm = z1) := (fun q => hc12_3 q.1)
    refine GoesH.step (fun _ k => pw_istore X3.here hx (l' := #[.val (.ref a1), .val (.int bb), .val (.int ee), .val (.int z1), .val (.int mm)]) (hb hby d19_25) rfl _ (pw_aloadN X3.here hx (hb hby d19_27) rfl rfl _ k)) ?_
    obtain ⟨cq9, kq9, qa9, qb9, qc9⟩ := isOf hZ eh3 E1
    obtain ⟨_, _, ⟨T9, qL9, qk9, qn9⟩, -, X9, ⟨Lc9, hQ9, ql9, qy9, qz9⟩, st9⟩ := X3.virtualBack hx (y := (⟨"java/lang/String", "isLatin1", "()Z"⟩ : MethodName)) (z := (⟨"java/lang/String", "isLatin1", "()Z"⟩ : MethodName)) hown (mvT hZ (own_w58 hw)) (mvT hZ (own_w59 hw)) (notFace_of_selects (args := #[]) (mvT hZ (own_w61 hw))) (mvT hZ (own_w61 hw)) (mvT hZ (own_w60 hw)) (by decide) (backOf (W := 0) (rm13 l Z a0 hw [] a1 b1 k1 z1 xs cs h0 n0 O0 f2 hcs E1 Fc1 Fv1 V1) hZ (own_w62 hw) (own_w7 hw) (by decide) (by decide)) qa9 qc9 (g := (mkF m 28 #[.val (.ref a1), .val (.int bb), .val (.int ee), .val (.int z1), .val (.int mm)] [(.ref a1)])) rfl (by rw [hml]; rfl) (Steps.refl _) (argsL := []) (rest := []) (lenOf pd_7 rfl) rfl (by show 2 * 0 + _ ≤ _; exact Nat.le_of_eq rfl) (hb hby d19_28) (fun _ _ => ⟨rfl, eh3, (by decide : 0 + 0 ≤ _), (by decide : 0 + 0 ≤ _)⟩)
    dsimp only [Pt.U, Pt.locs, Pt.cells, Pt.slots] at X9 ql9 qy9 qz9 st9 hQ9
    rw [ql9, qy9, qz9] at X9
    obtain ⟨rfl, Nq9, eh9⟩ := hQ9
    have N9 := Fr.app N3 Nq9
    refine GoesH.via (B := T9.setTop (mkF m 31 #[.val (.ref a1), .val (.int bb), .val (.int ee), .val (.int z1), .val (.int mm)] [(.int 1)])) st9 ?_
    refine GoesH.step (fun _ k => pw_ifNo X9.here hx (hb hby d19_31) ((if0 _ _).trans (feq (by decide)).1) _ (pw_aloadN X9.here hx (hb hby d19_34) rfl rfl _ k)) ?_
    obtain ⟨T10, X10, e10, st10⟩ := getF X9 hx hZ hown (host := "") (Or.inl (own_w32 hw)) Via.refl eh9 Fv1 (g := (mkF m 35 #[.val (.ref a1), .val (.int bb), .val (.int ee), .val (.int z1), .val (.int mm)] [(.ref a1)])) rfl rfl (hb hby d19_35)
    refine GoesH.step (B := T10.setTop (mkF m 38 #[.val (.ref a1), .val (.int bb), .val (.int ee), .val (.int z1), .val (.int mm)] [(.ref b1)])) st10 ?_
    refine GoesH.step (fun _ k => pw_iloadN X10.here hx (hb hby d19_38) rfl _ (pw_iload X10.here hx (hb hby d19_39) rfl _ k)) ?_
    obtain ⟨_, vw11, ⟨T11, qL11, qk11, qn11⟩, -, Xr11, S211, sz11, ⟨Lc11, hQ11, ql11, qy11, qz11, Hc11⟩, st11⟩ := callSS X10 hx (y := (⟨"java/lang/StringLatin1", "newString", "([BII)Ljava/lang/String;"⟩ : MethodName)) hown (mvT hZ (own_w95 hw)) (mvT hZ (own_w96 hw)) (mvT hZ (own_w65 hw)) (mvT hZ (own_w97 hw)) (by decide) (backOfSH (W := 0) (rmNS l Z a0 hw [] b1 k1 z1 xs bb mm h0 n0 O0 V1 hb0 (by omega) (by omega) hz5 hnn) hZ (own_w97 hw) (own_w65 hw) (by decide) (by decide) (own_EW hw) (CHr.refl hH0).1) (g := (mkF m 41 #[.val (.ref a1), .val (.int bb), .val (.int ee), .val (.int z1), .val (.int mm)] [(.int mm), (.int bb), (.ref b1)])) rfl (by rw [hml]; rfl) (argsL := [(.ref b1), (.int bb), (.int mm)]) (rest := []) (lenOf pd_15 rfl) rfl (by show 2 * 0 + _ ≤ _; exact Nat.le_of_eq rfl) (hb hby d19_41) (fun _ _ => ⟨rfl, e10, (by decide : 0 + 2 ≤ _), (by decide : 0 + 9 ≤ _)⟩)
    dsimp only [Pt.U, Pt.locs, Pt.cells, Pt.slots] at Xr11 S211 sz11 ql11 qy11 qz11 st11 hQ11 Hc11
    rw [ql11, qy11, qz11] at Xr11
    obtain ⟨X11, hS11, hZ11, hown11⟩ := rebS hS0 (by rw [e10]; exact (Nat.le_refl _)) Xr11 S211 sz11 hZ hown
    have CHc11 := (CHr.refl hH0).trans Hc11
    obtain ⟨nr11, nv11, nk11, rfl, Nq11, Kp11, Er11, Fv11, Fc11, Vr11⟩ := hQ11
    have O_11 := O0.keep Kp11 all0
    have K_11 := (Keep.refl h0 []).trans Kp11 all0
    have N11 := Fr.app N9 Nq11
    refine GoesH.via (B := T11.setTop (mkF m 44 #[.val (.ref a1), .val (.int bb), .val (.int ee), .val (.int z1), .val (.int mm)] [(.ref nr11)])) st11 ?_
    refine GoesH.step (fun _ k => pw_goto X11.here hx (pc' := 57) (hb hby d19_44) (by decide) (by decide) _ k) ?_
    exact GoesH.retA X11 hS11 (Nat.le_refl _) hZ11 (own_EW hw) (by rw [show s.heap = h0 from hh]; exact CHc11) hx rfl Bd.returns rfl rfl hlk (hb hby d19_57) (by decide) (by decide) (⟨nr11, nv11, nk11, mm, hmm, rfl, N11, K_11, Er11, Fv11, Fc11, Vr11⟩)
theorem d18_0 : decode jdk_42_method_91_code 0 = .ok (.aload_n 0, 1) := by decide +kernel
theorem d18_1 : decode jdk_42_method_91_code 1 = .ok (.iload_n 1, 1) := by decide +kernel
theorem d18_2 : decode jdk_42_method_91_code 2 = .ok (.aload_n 0, 1) := by decide +kernel
theorem d18_3 : decode jdk_42_method_91_code 3 = .ok (.invokevirtual 505, 3) := by decide +kernel
theorem d18_6 : decode jdk_42_method_91_code 6 = .ok (.invokevirtual 681, 3) := by decide +kernel
theorem own_w82 {Z : State} {a0 : Array Value} (hw : ∀ d ∈ tables_1, d.before a0 Z = true) : (Jvm.Cond.methodLink "java/lang/String" (681 : Nat) ({ cls := "java/lang/String", name := "substring", desc := "(II)Ljava/lang/String;" } : Jvm.MethodName)).before a0 Z = true := hw _ (List.mem_of_getElem? (i := 82) rfl)
theorem own_w86 {Z : State} {a0 : Array Value} (hw : ∀ d ∈ tables_1, d.before a0 Z = true) : (Jvm.Cond.code ({ cls := "java/lang/String", name := "substring", desc := "(II)Ljava/lang/String;" } : Jvm.MethodName) jdk_42_method_92_code (5 : Nat) (Option.some (Jvm.ClassFile.FieldType.object "java/lang/String"))).before a0 Z = true := hw _ (List.mem_of_getElem? (i := 86) rfl)
theorem pd_16 : parseMethodDescriptor "(II)Ljava/lang/String;" = some ⟨[.int, .int], some (.object "java/lang/String")⟩ := by decide +kernel
theorem own_w85 {Z : State} {a0 : Array Value} (hw : ∀ d ∈ tables_1, d.before a0 Z = true) : (Jvm.Cond.selects "java/lang/String" ({ cls := "java/lang/String", name := "substring", desc := "(II)Ljava/lang/String;" } : Jvm.MethodName) ({ cls := "java/lang/String", name := "substring", desc := "(II)Ljava/lang/String;" } : Jvm.MethodName)).before a0 Z = true := hw _ (List.mem_of_getElem? (i := 85) rfl)
theorem own_w83 {Z : State} {a0 : Array Value} (hw : ∀ d ∈ tables_1, d.before a0 Z = true) : (Jvm.Cond.declares ({ cls := "java/lang/String", name := "substring", desc := "(II)Ljava/lang/String;" } : Jvm.MethodName)).before a0 Z = true := hw _ (List.mem_of_getElem? (i := 83) rfl)
theorem own_w84 {Z : State} {a0 : Array Value} (hw : ∀ d ∈ tables_1, d.before a0 Z = true) : (Jvm.Cond.instanceMethod ({ cls := "java/lang/String", name := "substring", desc := "(II)Ljava/lang/String;" } : Jvm.MethodName)).before a0 Z = true := hw _ (List.mem_of_getElem? (i := 84) rfl)
theorem d18_9 : decode jdk_42_method_91_code 9 = .ok (.areturn, 1) := by decide +kernel
theorem ef_rmS1 (m : MethodId) (x0 : Addr) (x1 : Int32) : entryFrame m #[(.ref x0), (.int x1)] 2 = mkF m 0 #[.val (.ref x0), .val (.int x1)] [] := by first | (simp [entryFrame, mkF, argsToLocals, Value.category]; done) | rfl
def QS1 (Z : State) (a1 : Addr) (b1 : Addr) (k1 : ClassId) (z1 : Int32) (xs : List Int32) (bb : Int32) (cs : Int32) (fm : Value) (h0 : Heap) (n0 : Nat) (v : Option Value) (h : Heap) (L : List Loc) : Prop := ∃ (r vb : Addr) (kv : ClassId) (mm : Int32), mm = z1 - bb ∧ v = some (.ref r) ∧ Fr n0 L ∧ Keep h0 h [] ∧ Exa Z h r "java/lang/String" ∧ Fld Z h r "java/lang/String" "value" "[B" (.ref vb) ∧ Fld Z h r "java/lang/String" "coder" "B" (.int (0 : Int32)) ∧ Arv Z h vb kv .byte mm ((own_sub xs bb mm).map Value.int) (.int (0 : Int32))
set_option maxRecDepth 65536 in
set_option maxHeartbeats 40000000 in
theorem rmS1 (l : Launch) (Z : State) (a0 : Array Value) (hw : ∀ d ∈ tables_1, d.before a0 Z = true) (ws : List Jvm.Cond) (a1 : Addr) (b1 : Addr) (k1 : ClassId) (z1 : Int32) (xs : List Int32) (bb : Int32) (cs : Int32) (fm : Value) (h0 : Heap) (n0 : Nat) (O0 : Old Z n0 h0) (FS : OwnSt Z cs fm) (E1 : Exa Z h0 a1 "java/lang/String") (Fc1 : Fld Z h0 a1 "java/lang/String" "coder" "B" (.int (0 : Int32))) (Fv1 : Fld Z h0 a1 "java/lang/String" "value" "[B" (.ref b1)) (V1 : Arv Z h0 b1 k1 .byte z1 (xs.map Value.int) (.int (0 : Int32))) (hb0 : 0 ≤ bb.toInt) (hbz : bb.toInt ≤ z1.toInt) (hz5 : z1.toInt ≤ 5) (hzl : z1.toNatClampNeg = xs.length) :
    MetFree l (⟨"java/lang/String", "substring", "(I)Ljava/lang/String;"⟩ : MethodName) (head1 (Jvm.Cond.code (⟨"java/lang/String", "substring", "(I)Ljava/lang/String;"⟩ : MethodName) jdk_42_method_91_code 2 (some (.object "java/lang/String")) :: ws) ({ frames := 5, cells := 2, slots := 9, locals := 80 } : Room)) (fun a U => a = #[(.ref a1), (.int bb)] ∧ Z.Warmed39 U.vm ∧ U.heap = h0 ∧ CHv Z own_EL U.vm h0) (fun _ _ _ _ _ => True) (fun _ U o U' => ∃ v L, o = .returned v ∧ QS1 Z a1 b1 k1 z1 xs bb cs fm h0 n0 v U'.heap L ∧ CHr Z own_EL U.vm U.heap U'.vm U'.heap ∧ ReturnedEndW U o U' L ({ frames := 5, cells := 2, slots := 9, locals := 80 } : Room).cells ({ frames := 5, cells := 2, slots := 9, locals := 80 } : Room).slots) := by
  refine MetFree.of_bodySF (plainFor_of_name pn_String) hisR ?_
  intro p e s m args below meth c s₁ Bd hml0 hP hK
  obtain ⟨rfl, hZ, hh, hH0⟩ := hP
  have hx := Bd.exec
  have hby := Bd.bytes
  have hlk : meth.locks = false := BodyLoose.notSynchronized Bd
  have hml : c.maxLocals = 2 := hml0
  have hown : s.vm.findClass "java/lang/String" = some m.cls := findClass_of_methodNamed Bd.named
  have hnm := (name_of_methodNamed Bd.named Bd.method).1
  have X0 : Stand p l e ({ frames := 5, cells := 2, slots := 9, locals := 80 } : Room) (s.setVm s.vm) m #[(.ref a1), (.int bb)] below meth c s₁ [] 0 0 := Stand.of_body Bd
  have e0 : s₁.heap = h0 := by rw [← hh, Bd.state]; rfl
  have N0 := Fr.nil n0
  have hS0 : s.Since s.vm h0.size := (State.WarmedH.refl s).since _
  show GoesH p e below s Z own_EL (QS1 Z a1 b1 k1 z1 xs bb cs fm h0 n0) ({ frames := 5, cells := 2, slots := 9, locals := 80 } : Room).cells ({ frames := 5, cells := 2, slots := 9, locals := 80 } : Room).slots (s₁.setTop (entryFrame m #[(.ref a1), (.int bb)] 2))
  refine GoesH.enter (g' := (mkF m 0 #[.val (.ref a1), .val (.int bb)] [])) (ef_rmS1 m a1 bb) ?_
  have FS0 := FS
  obtain ⟨S_COMPACT_STRINGS, hcs, S_fm, hfm⟩ := FS0
  refine GoesH.step (fun _ k => pw_aloadN X0.here hx (hb hby d18_0) rfl rfl _ (pw_iloadN X0.here hx (hb hby d18_1) rfl _ (pw_aloadN X0.here hx (hb hby d18_2) rfl rfl _ k))) ?_
  have f2 := S_COMPACT_STRINGS.ext O0.2
  obtain ⟨cq1, kq1, qa1, qb1, qc1⟩ := isOf hZ e0 E1
  obtain ⟨_, _, ⟨T1, qL1, qk1, qn1⟩, -, X1, ⟨Lc1, hQ1, ql1, qy1, qz1⟩, st1⟩ := X0.virtualBack hx (y := (⟨"java/lang/String", "length", "()I"⟩ : MethodName)) (z := (⟨"java/lang/String", "length", "()I"⟩ : MethodName)) hown (mvT hZ (own_w43 hw)) (mvT hZ (own_w44 hw)) (notFace_of_selects (args := #[]) (mvT hZ (own_w46 hw))) (mvT hZ (own_w46 hw)) (mvT hZ (own_w45 hw)) (by decide) (backOf (W := 2) (rm10 l Z a0 hw [] a1 b1 k1 z1 xs cs h0 n0 O0 f2 hcs E1 Fc1 Fv1 V1) hZ (own_w47 hw) (own_w7 hw) (by decide) (by decide)) qa1 qc1 (g := (mkF m 3 #[.val (.ref a1), .val (.int bb)] [(.ref a1), (.int bb), (.ref a1)])) rfl (by rw [hml]; rfl) (Steps.refl _) (argsL := []) (rest := [(.int bb), (.ref a1)]) (lenOf pd_13 rfl) rfl (by show 2 * 0 + _ ≤ _; exact Nat.le_of_eq rfl) (hb hby d18_3) (fun _ _ => ⟨rfl, e0, (by decide : 0 + 0 ≤ _), (by decide : 0 + 0 ≤ _)⟩)
  dsimp only [Pt.U, Pt.locs, Pt.cells, Pt.slots] at X1 ql1 qy1 qz1 st1 hQ1
  rw [ql1, qy1, qz1] at X1
  obtain ⟨rfl, Nq1, eh1⟩ := hQ1
  have N1 := Fr.app N0 Nq1
  refine GoesH.via (B := T1.setTop (mkF m 6 #[.val (.ref a1), .val (.int bb)] [(.int z1), (.int bb), (.ref a1)])) st1 ?_
  obtain ⟨cq3, kq3, qa3, qb3, qc3⟩ := isOf hZ eh1 E1
  obtain ⟨_, vw3, ⟨T3, qL3, qk3, qn3⟩, -, Xr3, S23, sz3, ⟨Lc3, hQ3, ql3, qy3, qz3, Hc3⟩, st3⟩ := X1.virtualBackS hx (y := (⟨"java/lang/String", "substring", "(II)Ljava/lang/String;"⟩ : MethodName)) (z := (⟨"java/lang/String", "substring", "(II)Ljava/lang/String;"⟩ : MethodName)) hown (mvT hZ (own_w82 hw)) (mvT hZ (own_w83 hw)) (notFace_of_selects (args := #[]) (mvT hZ (own_w85 hw))) (mvT hZ (own_w85 hw)) (mvT hZ (own_w84 hw)) (by decide) (backOfSH (W := 0) (rmS2 l Z a0 hw [] a1 b1 k1 z1 xs bb z1 cs fm h0 n0 O0 FS E1 Fc1 Fv1 V1 hb0 hbz (Int.le_refl _) hz5 hzl) hZ (own_w86 hw) (own_w7 hw) (by decide) (by decide) (own_EW hw) (CHr.refl hH0).1) qa3 qc3 (g := (mkF m 6 #[.val (.ref a1), .val (.int bb)] [(.int z1), (.int bb), (.ref a1)])) rfl (by rw [hml]; rfl) (Steps.refl _) (argsL := [(.int bb), (.int z1)]) (rest := []) (lenOf pd_16 rfl) rfl (by show 2 * 0 + _ ≤ _; exact Nat.le_of_eq rfl) (hb hby d18_6) (fun _ _ => ⟨rfl, eh1, (by decide : 0 + 2 ≤ _), (by decide : 0 + 9 ≤ _)⟩)
  dsimp only [Pt.U, Pt.locs, Pt.cells, Pt.slots] at Xr3 S23 sz3 ql3 qy3 qz3 st3 hQ3 Hc3
  rw [ql3, qy3, qz3] at Xr3
  obtain ⟨X3, hS3, hZ3, hown3⟩ := rebS hS0 (by rw [eh1]; exact (Nat.le_refl _)) Xr3 S23 sz3 hZ hown
  have CHc3 := (CHr.refl hH0).trans Hc3
  obtain ⟨nr3, nv3, nk3, nm3, hnm3, rfl, Nq3, Kp3, Er3, Fv3, Fc3, Vr3⟩ := hQ3
  have O_3 := O0.keep Kp3 all0
  have K_3 := (Keep.refl h0 []).trans Kp3 all0
  have N3 := Fr.app N1 Nq3
  refine GoesH.via (B := T3.setTop (mkF m 9 #[.val (.ref a1), .val (.int bb)] [(.ref nr3)])) st3 ?_
  exact GoesH.retA X3 hS3 (Nat.le_refl _) hZ3 (own_EW hw) (by rw [show s.heap = h0 from hh]; exact CHc3) hx rfl Bd.returns rfl rfl hlk (hb hby d18_9) (by decide) (by decide) (⟨nr3, nv3, nk3, nm3, hnm3, rfl, N3, K_3, Er3, Fv3, Fc3, Vr3⟩)
theorem d27_0 : decode method_3_code 0 = .ok (.iload_n 0, 1) := by decide +kernel
theorem d27_1 : decode method_3_code 1 = .ok (.bipush 47, 2) := by decide +kernel
theorem d27_3 : decode method_3_code 3 = .ok (.if_icmp .eq 9, 3) := by decide +kernel
theorem d27_12 : decode method_3_code 12 = .ok (.iconst 1, 1) := by decide +kernel
theorem d27_13 : decode method_3_code 13 = .ok (.goto 4, 3) := by decide +kernel
theorem d27_17 : decode method_3_code 17 = .ok (.ireturn, 1) := by decide +kernel
theorem d27_6 : decode method_3_code 6 = .ok (.iload_n 0, 1) := by decide +kernel
theorem d27_7 : decode method_3_code 7 = .ok (.bipush 92, 2) := by decide +kernel
theorem d27_9 : decode method_3_code 9 = .ok (.if_icmp .ne 7, 3) := by decide +kernel
theorem d27_16 : decode method_3_code 16 = .ok (.iconst 0, 1) := by decide +kernel
theorem ef_rm27 (m : MethodId) (x0 : Int32) : entryFrame m #[(.int x0)] 1 = mkF m 0 #[.val (.int x0)] [] := by first | (simp [entryFrame, mkF, argsToLocals, Value.category]; done) | rfl
def Q27 (Z : State) (p1 : Int32) (h0 : Heap) (n0 : Nat) (v : Option Value) (h : Heap) (L : List Loc) : Prop := v = some (.int (own_sep p1)) ∧ Fr n0 L ∧ h = h0
set_option maxRecDepth 65536 in
set_option maxHeartbeats 40000000 in
theorem rm27 (l : Launch) (Z : State) (a0 : Array Value) (hw : ∀ d ∈ tables_1, d.before a0 Z = true) (ws : List Jvm.Cond) (p1 : Int32) (h0 : Heap) (n0 : Nat) (O0 : Old Z n0 h0) :
    MetFree l (⟨"com/example/partwright/partwright/reader/FormPartLastPathComponentPinLaw", "sep", "(C)Z"⟩ : MethodName) (head1 (Jvm.Cond.code (⟨"com/example/partwright/partwright/reader/FormPartLastPathComponentPinLaw", "sep", "(C)Z"⟩ : MethodName) method_3_code 1 (some .boolean) :: ws) ({ frames := 0, cells := 0, slots := 0, locals := 0 } : Room)) (fun a U => a = #[(.int p1)] ∧ Z.Warmed39 U.vm ∧ U.heap = h0) (fun _ _ _ _ _ => True) (fun _ U o U' => ∃ v L, o = .returned v ∧ Q27 Z p1 h0 n0 v U'.heap L ∧ FrameEnd U o U' L ({ frames := 0, cells := 0, slots := 0, locals := 0 } : Room).cells ({ frames := 0, cells := 0, slots := 0, locals := 0 } : Room).slots) := by
  refine MetFree.of_bodySF (plainFor_of_name pn_FormPartLastPathComponentPinLaw) hisR ?_
  intro p e s m args below meth c s₁ Bd hml0 hP hK
  obtain ⟨rfl, hZ, hh⟩ := hP
  have hx := Bd.exec
  have hby := Bd.bytes
  have hlk : meth.locks = false := BodyLoose.notSynchronized Bd
  have hml : c.maxLocals = 1 := hml0
  have hown : s.vm.findClass "com/example/partwright/partwright/reader/FormPartLastPathComponentPinLaw" = some m.cls := findClass_of_methodNamed Bd.named
  have hnm := (name_of_methodNamed Bd.named Bd.method).1
  have X0 : Stand p l e ({ frames := 0, cells := 0, slots := 0, locals := 0 } : Room) s m #[(.int p1)] below meth c s₁ [] 0 0 := Stand.of_body Bd
  have e0 : s₁.heap = h0 := by rw [← hh, Bd.state]; rfl
  have N0 := Fr.nil n0
  show Goes p e below s (Q27 Z p1 h0 n0) ({ frames := 0, cells := 0, slots := 0, locals := 0 } : Room).cells ({ frames := 0, cells := 0, slots := 0, locals := 0 } : Room).slots (s₁.setTop (entryFrame m #[(.int p1)] 1))
  refine Goes.enter (g' := (mkF m 0 #[.val (.int p1)] [])) (ef_rm27 m p1) ?_
  refine Goes.step (fun _ k => pw_iloadN X0.here hx (hb hby d27_0) rfl _ (pw_bipush X0.here hx (v := (47 : Int32)) (hb hby d27_1) rfl _ k)) ?_
  by_cases hc3_0 : p1 = (47 : Int32)
  · refine Goes.step (fun _ k => pw_icmpYes X0.here hx (pc' := 12) (hb hby d27_3) (teq hc3_0).1 (by decide) (by decide) _ (pw_iconst X0.here hx (v := (1 : Int32)) (hb hby d27_12) rfl _ (pw_goto X0.here hx (pc' := 17) (hb hby d27_13) (by decide) (by decide) _ k))) ?_
    exact Goes.retN X0 hx e0 (t := .boolean) Bd.returns (by simp) hlk (hb hby d27_17) (by decide) (by decide) (⟨(by unfold own_sep; rw [if_pos hc3_0]; try rfl), N0, rfl⟩)
  · refine Goes.step (fun _ k => pw_icmpNo X0.here hx (hb hby d27_3) (feq hc3_0).1 _ (pw_iloadN X0.here hx (hb hby d27_6) rfl _ (pw_bipush X0.here hx (v := (92 : Int32)) (hb hby d27_7) rfl _ k))) ?_
    by_cases hc9_1 : p1 = (92 : Int32)
    · refine Goes.step (fun _ k => pw_icmpNo X0.here hx (hb hby d27_9) (teq hc9_1).2 _ (pw_iconst X0.here hx (v := (1 : Int32)) (hb hby d27_12) rfl _ (pw_goto X0.here hx (pc' := 17) (hb hby d27_13) (by decide) (by decide) _ k))) ?_
      exact Goes.retN X0 hx e0 (t := .boolean) Bd.returns (by simp) hlk (hb hby d27_17) (by decide) (by decide) (⟨(by unfold own_sep; rw [if_neg hc3_0, if_pos hc9_1]; try rfl), N0, rfl⟩)
    · refine Goes.step (fun _ k => pw_icmpYes X0.here hx (pc' := 16) (hb hby d27_9) (feq hc9_1).2 (by decide) (by decide) _ (pw_iconst X0.here hx (v := (0 : Int32)) (hb hby d27_16) rfl _ k)) ?_
      exact Goes.retN X0 hx e0 (t := .boolean) Bd.returns (by simp) hlk (hb hby d27_17) (by decide) (by decide) (⟨(by unfold own_sep; rw [if_neg hc3_0, if_neg hc9_1]; try rfl), N0, rfl⟩)
theorem d17_0 : decode jdk_29_method_65_code 0 = .ok (.iload_n 0, 1) := by decide +kernel
theorem d17_1 : decode jdk_29_method_65_code 1 = .ok (.iload_n 1, 1) := by decide +kernel
theorem d17_2 : decode jdk_29_method_65_code 2 = .ok (.if_icmp .lt 7, 3) := by decide +kernel
theorem d17_9 : decode jdk_29_method_65_code 9 = .ok (.iload_n 1, 1) := by decide +kernel
theorem d17_10 : decode jdk_29_method_65_code 10 = .ok (.ireturn, 1) := by decide +kernel
theorem d17_5 : decode jdk_29_method_65_code 5 = .ok (.iload_n 0, 1) := by decide +kernel
theorem d17_6 : decode jdk_29_method_65_code 6 = .ok (.goto 4, 3) := by decide +kernel
theorem ef_rm17 (m : MethodId) (x0 : Int32) (x1 : Int32) : entryFrame m #[(.int x0), (.int x1)] 2 = mkF m 0 #[.val (.int x0), .val (.int x1)] [] := by first | (simp [entryFrame, mkF, argsToLocals, Value.category]; done) | rfl
def Q17 (Z : State) (p1 : Int32) (p2 : Int32) (h0 : Heap) (n0 : Nat) (v : Option Value) (h : Heap) (L : List Loc) : Prop := v = some (.int (own_max p1 p2)) ∧ Fr n0 L ∧ h = h0
set_option maxRecDepth 65536 in
set_option maxHeartbeats 40000000 in
theorem rm17 (l : Launch) (Z : State) (a0 : Array Value) (hw : ∀ d ∈ tables_1, d.before a0 Z = true) (ws : List Jvm.Cond) (p1 : Int32) (p2 : Int32) (h0 : Heap) (n0 : Nat) (O0 : Old Z n0 h0) :
    MetFree l (⟨"java/lang/Math", "max", "(II)I"⟩ : MethodName) (head1 (Jvm.Cond.code (⟨"java/lang/Math", "max", "(II)I"⟩ : MethodName) jdk_29_method_65_code 2 (some .int) :: ws) ({ frames := 0, cells := 0, slots := 0, locals := 0 } : Room)) (fun a U => a = #[(.int p1), (.int p2)] ∧ Z.Warmed39 U.vm ∧ U.heap = h0) (fun _ _ _ _ _ => True) (fun _ U o U' => ∃ v L, o = .returned v ∧ Q17 Z p1 p2 h0 n0 v U'.heap L ∧ FrameEnd U o U' L ({ frames := 0, cells := 0, slots := 0, locals := 0 } : Room).cells ({ frames := 0, cells := 0, slots := 0, locals := 0 } : Room).slots) := by
  refine MetFree.of_bodySF (Jvm.Free.JP.mathPlain rfl (by decide +kernel)) hisR ?_
  intro p e s m args below meth c s₁ Bd hml0 hP hK
  obtain ⟨rfl, hZ, hh⟩ := hP
  have hx := Bd.exec
  have hby := Bd.bytes
  have hlk : meth.locks = false := BodyLoose.notSynchronized Bd
  have hml : c.maxLocals = 2 := hml0
  have hown : s.vm.findClass "java/lang/Math" = some m.cls := findClass_of_methodNamed Bd.named
  have hnm := (name_of_methodNamed Bd.named Bd.method).1
  have X0 : Stand p l e ({ frames := 0, cells := 0, slots := 0, locals := 0 } : Room) s m #[(.int p1), (.int p2)] below meth c s₁ [] 0 0 := Stand.of_body Bd
  have e0 : s₁.heap = h0 := by rw [← hh, Bd.state]; rfl
  have N0 := Fr.nil n0
  show Goes p e below s (Q17 Z p1 p2 h0 n0) ({ frames := 0, cells := 0, slots := 0, locals := 0 } : Room).cells ({ frames := 0, cells := 0, slots := 0, locals := 0 } : Room).slots (s₁.setTop (entryFrame m #[(.int p1), (.int p2)] 2))
  refine Goes.enter (g' := (mkF m 0 #[.val (.int p1), .val (.int p2)] [])) (ef_rm17 m p1 p2) ?_
  refine Goes.step (fun _ k => pw_iloadN X0.here hx (hb hby d17_0) rfl _ (pw_iloadN X0.here hx (hb hby d17_1) rfl _ k)) ?_
  by_cases hc2_0 : p1 < p2
  · refine Goes.step (fun _ k => pw_icmpYes X0.here hx (pc' := 9) (hb hby d17_2) (tlt hc2_0).1 (by decide) (by decide) _ (pw_iloadN X0.here hx (hb hby d17_9) rfl _ k)) ?_
    exact Goes.retI X0 hx e0 Bd.returns hlk (hb hby d17_10) (by decide) (by decide) (⟨(by unfold own_max; rw [if_pos hc2_0]; try rfl), N0, rfl⟩)
  · refine Goes.step (fun _ k => pw_icmpNo X0.here hx (hb hby d17_2) (flt hc2_0).1 _ (pw_iloadN X0.here hx (hb hby d17_5) rfl _ (pw_goto X0.here hx (pc' := 10) (hb hby d17_6) (by decide) (by decide) _ k))) ?_
    exact Goes.retI X0 hx e0 Bd.returns hlk (hb hby d17_10) (by decide) (by decide) (⟨(by unfold own_max; rw [if_neg hc2_0]; try rfl), N0, rfl⟩)
theorem d14_0 : decode jdk_43_method_27_code 0 = .ok (.iload_n 1, 1) := by decide +kernel
theorem d14_1 : decode jdk_43_method_27_code 1 = .ok (.invokestatic 88, 3) := by decide +kernel
theorem own_w67 {Z : State} {a0 : Array Value} (hw : ∀ d ∈ tables_1, d.before a0 Z = true) : (Jvm.Cond.methodLink "java/lang/StringLatin1" (88 : Nat) ({ cls := "java/lang/StringLatin1", name := "canEncode", desc := "(I)Z" } : Jvm.MethodName)).before a0 Z = true := hw _ (List.mem_of_getElem? (i := 67) rfl)
theorem own_w69 {Z : State} {a0 : Array Value} (hw : ∀ d ∈ tables_1, d.before a0 Z = true) : (Jvm.Cond.code ({ cls := "java/lang/StringLatin1", name := "canEncode", desc := "(I)Z" } : Jvm.MethodName) jdk_43_method_4_code (1 : Nat) (Option.some Jvm.ClassFile.FieldType.boolean)).before a0 Z = true := hw _ (List.mem_of_getElem? (i := 69) rfl)
theorem pd_17 : parseMethodDescriptor "(I)Z" = some ⟨[.int], some .boolean⟩ := by decide +kernel
theorem own_w68 {Z : State} {a0 : Array Value} (hw : ∀ d ∈ tables_1, d.before a0 Z = true) : (Jvm.Cond.static ({ cls := "java/lang/StringLatin1", name := "canEncode", desc := "(I)Z" } : Jvm.MethodName)).before a0 Z = true := hw _ (List.mem_of_getElem? (i := 68) rfl)
theorem d14_4 : decode jdk_43_method_27_code 4 = .ok (.ifCond .ne 5, 3) := by decide +kernel
theorem d14_9 : decode jdk_43_method_27_code 9 = .ok (.iload_n 2, 1) := by decide +kernel
theorem d14_10 : decode jdk_43_method_27_code 10 = .ok (.aload_n 0, 1) := by decide +kernel
theorem d14_11 : decode jdk_43_method_27_code 11 = .ok (.arraylength, 1) := by decide +kernel
theorem d14_12 : decode jdk_43_method_27_code 12 = .ok (.iconst 1, 1) := by decide +kernel
theorem d14_13 : decode jdk_43_method_27_code 13 = .ok (.isub, 1) := by decide +kernel
theorem d14_14 : decode jdk_43_method_27_code 14 = .ok (.invokestatic 38, 3) := by decide +kernel
theorem own_w70 {Z : State} {a0 : Array Value} (hw : ∀ d ∈ tables_1, d.before a0 Z = true) : (Jvm.Cond.methodLink "java/lang/StringLatin1" (38 : Nat) ({ cls := "java/lang/Math", name := "min", desc := "(II)I" } : Jvm.MethodName)).before a0 Z = true := hw _ (List.mem_of_getElem? (i := 70) rfl)
theorem d14_17 : decode jdk_43_method_27_code 17 = .ok (.istore_n 3, 1) := by decide +kernel
theorem d14_18 : decode jdk_43_method_27_code 18 = .ok (.iload_n 3, 1) := by decide +kernel
theorem d14_19 : decode jdk_43_method_27_code 19 = .ok (.ifCond .lt 19, 3) := by decide +kernel
theorem d14_38 : decode jdk_43_method_27_code 38 = .ok (.iconst (-1), 1) := by decide +kernel
theorem d14_39 : decode jdk_43_method_27_code 39 = .ok (.ireturn, 1) := by decide +kernel
theorem d14_22 : decode jdk_43_method_27_code 22 = .ok (.aload_n 0, 1) := by decide +kernel
theorem d14_23 : decode jdk_43_method_27_code 23 = .ok (.iload_n 3, 1) := by decide +kernel
theorem d14_24 : decode jdk_43_method_27_code 24 = .ok (.baload, 1) := by decide +kernel
theorem d14_25 : decode jdk_43_method_27_code 25 = .ok (.iload_n 1, 1) := by decide +kernel
theorem d14_26 : decode jdk_43_method_27_code 26 = .ok (.i2b, 1) := by decide +kernel
theorem d14_27 : decode jdk_43_method_27_code 27 = .ok (.if_icmp .ne 5, 3) := by decide +kernel
theorem d14_30 : decode jdk_43_method_27_code 30 = .ok (.iload_n 3, 1) := by decide +kernel
theorem d14_31 : decode jdk_43_method_27_code 31 = .ok (.ireturn, 1) := by decide +kernel
theorem d14_32 : decode jdk_43_method_27_code 32 = .ok (.iinc 3 (-1), 3) := by decide +kernel
theorem d14_35 : decode jdk_43_method_27_code 35 = .ok (.goto (-17), 3) := by decide +kernel
theorem ef_rmLI (m : MethodId) (x0 : Addr) (x1 : Int32) (x2 : Int32) : entryFrame m #[(.ref x0), (.int x1), (.int x2)] 4 = mkF m 0 #[.val (.ref x0), .val (.int x1), .val (.int x2), .unset] [] := by first | (simp [entryFrame, mkF, argsToLocals, Value.category]; done) | rfl
def QLI (Z : State) (b1 : Addr) (k1 : ClassId) (z1 : Int32) (xs : List Int32) (p1 : Int32) (p2 : Int32) (h0 : Heap) (n0 : Nat) (v : Option Value) (h : Heap) (L : List Loc) : Prop := v = some (.int (own_lix p1 xs)) ∧ Fr n0 L ∧ h = h0
set_option maxRecDepth 65536 in
set_option maxHeartbeats 40000000 in
theorem rmLI (l : Launch) (Z : State) (a0 : Array Value) (hw : ∀ d ∈ tables_1, d.before a0 Z = true) (ws : List Jvm.Cond) (b1 : Addr) (k1 : ClassId) (z1 : Int32) (xs : List Int32) (p1 : Int32) (p2 : Int32) (h0 : Heap) (n0 : Nat) (O0 : Old Z n0 h0) (V1 : Arv Z h0 b1 k1 .byte z1 (xs.map Value.int) (.int (0 : Int32))) (hzl : z1.toNatClampNeg = xs.length) (hz5 : z1.toInt ≤ 5) (hp2 : p2 = z1 - 1) (hp0 : ¬ p1 < (0 : Int32)) (hp1 : ¬ (255 : Int32) < p1) :
    MetFree l (⟨"java/lang/StringLatin1", "lastIndexOf", "([BII)I"⟩ : MethodName) (head1 (Jvm.Cond.code (⟨"java/lang/StringLatin1", "lastIndexOf", "([BII)I"⟩ : MethodName) jdk_43_method_27_code 4 (some .int) :: ws) ({ frames := 1, cells := 0, slots := 0, locals := 13 } : Room)) (fun a U => a = #[(.ref b1), (.int p1), (.int p2)] ∧ Z.Warmed39 U.vm ∧ U.heap = h0) (fun _ _ _ _ _ => True) (fun _ U o U' => ∃ v L, o = .returned v ∧ QLI Z b1 k1 z1 xs p1 p2 h0 n0 v U'.heap L ∧ FrameEnd U o U' L ({ frames := 1, cells := 0, slots := 0, locals := 13 } : Room).cells ({ frames := 1, cells := 0, slots := 0, locals := 13 } : Room).slots) := by
  refine MetFree.of_bodySF (plainFor_of_name pn_StringLatin1) hisR ?_
  intro p e s m args below meth c s₁ Bd hml0 hP hK
  obtain ⟨rfl, hZ, hh⟩ := hP
  have hx := Bd.exec
  have hby := Bd.bytes
  have hlk : meth.locks = false := BodyLoose.notSynchronized Bd
  have hml : c.maxLocals = 4 := hml0
  have hown : s.vm.findClass "java/lang/StringLatin1" = some m.cls := findClass_of_methodNamed Bd.named
  have hnm := (name_of_methodNamed Bd.named Bd.method).1
  have X0 : Stand p l e ({ frames := 1, cells := 0, slots := 0, locals := 13 } : Room) s m #[(.ref b1), (.int p1), (.int p2)] below meth c s₁ [] 0 0 := Stand.of_body Bd
  have e0 : s₁.heap = h0 := by rw [← hh, Bd.state]; rfl
  have N0 := Fr.nil n0
  show Goes p e below s (QLI Z b1 k1 z1 xs p1 p2 h0 n0) ({ frames := 1, cells := 0, slots := 0, locals := 13 } : Room).cells ({ frames := 1, cells := 0, slots := 0, locals := 13 } : Room).slots (s₁.setTop (entryFrame m #[(.ref b1), (.int p1), (.int p2)] 4))
  refine Goes.enter (g' := (mkF m 0 #[.val (.ref b1), .val (.int p1), .val (.int p2), .unset] [])) (ef_rmLI m b1 p1 p2) ?_
  have hz0 : ¬ z1 < 0 := by obtain ⟨_, _, _, _, q, _⟩ := id V1; exact q
  rcases own_l6 hzl hz5 hz0 with ⟨rfl, rfl⟩ | ⟨x0, rfl, rfl⟩ | ⟨x0, x1, rfl, rfl⟩ | ⟨x0, x1, x2, rfl, rfl⟩ | ⟨x0, x1, x2, x3, rfl, rfl⟩ | ⟨x0, x1, x2, x3, x4, rfl, rfl⟩
  · obtain rfl : p2 = (-1 : Int32) := hp2.trans (by decide)
    refine Goes.step (fun _ k => pw_iloadN X0.here hx (hb hby d14_0) rfl _ k) ?_
    obtain ⟨_, _, ⟨T1, qL1, qk1, qn1⟩, -, X1, ⟨Lc1, hQ1, ql1, qy1, qz1⟩, st1⟩ := Jvm.LawKit.callS X0 hx (y := (⟨"java/lang/StringLatin1", "canEncode", "(I)Z"⟩ : MethodName)) hown (mvT hZ (own_w67 hw)) (mvT hZ (own_w68 hw)) (mvT hZ (own_w65 hw)) (mvT hZ (own_w69 hw)) (by decide) (backOf (W := 0) (rm15 l Z a0 hw [] p1 h0 n0 O0 hp0 hp1) hZ (own_w69 hw) (own_w65 hw) (by decide) (by decide)) (g := (mkF m 1 #[.val (.ref b1), .val (.int p1), .val (.int (-1)), .unset] [(.int p1)])) rfl (by rw [hml]; rfl) (argsL := [(.int p1)]) (rest := []) (lenOf pd_17 rfl) rfl (by show 2 * 0 + _ ≤ _; exact Nat.le_of_eq rfl) (hb hby d14_1) (fun _ _ => ⟨rfl, e0, (by decide : 0 + 0 ≤ _), (by decide : 0 + 0 ≤ _)⟩)
    dsimp only [Pt.U, Pt.locs, Pt.cells, Pt.slots] at X1 ql1 qy1 qz1 st1 hQ1
    rw [ql1, qy1, qz1] at X1
    obtain ⟨rfl, Nq1, eh1⟩ := hQ1
    have N1 := Fr.app N0 Nq1
    refine Goes.step (B := T1.setTop (mkF m 4 #[.val (.ref b1), .val (.int p1), .val (.int (-1)), .unset] [(.int 1)])) st1 ?_
    refine Goes.step (fun _ k => pw_ifYes X1.here hx (pc' := 9) (hb hby d14_4) ((if0 _ _).trans (feq (by decide)).2) (by decide) (by decide) _ (pw_iloadN X1.here hx (hb hby d14_9) rfl _ (pw_aloadN X1.here hx (hb hby d14_10) rfl rfl _ k))) ?_
    obtain ⟨c2, Ar2, -, Sz2, Nn2, -, -⟩ := id V1
    have len2 := X1.arraylength hx (by rw [eh1]; exact Ar2.1) (State.isArrayOf_alike hZ.alike Ar2.2.1) (g := (mkF m 11 #[.val (.ref b1), .val (.int p1), .val (.int (-1)), .unset] [(.ref b1), (.int (-1))])) rfl rfl (hb hby d14_11)
    rw [len_of Sz2 Nn2] at len2
    refine Goes.step (B := T1.setTop (mkF m 12 #[.val (.ref b1), .val (.int p1), .val (.int (-1)), .unset] [(.int 0), (.int (-1))])) len2 ?_
    refine Goes.step (fun _ k => pw_iconst X1.here hx (v := (1 : Int32)) (hb hby d14_12) rfl _ k) ?_
    refine Goes.step (B := T1.setTop (mkF m 14 #[.val (.ref b1), .val (.int p1), .val (.int (-1)), .unset] [(.int (-1)), (.int (-1))])) (fun _ k => XS.isub X1.here hx rfl (hb hby d14_13) rfl k) ?_
    obtain ⟨_, _, ⟨T3, qL3, qk3, qn3⟩, -, X3, ⟨Lc3, hQ3, ql3, qy3, qz3⟩, st3⟩ := Jvm.LawKit.callS X1 hx (y := (⟨"java/lang/Math", "min", "(II)I"⟩ : MethodName)) hown (mvT hZ (own_w70 hw)) (mvT hZ (own_w71 hw)) (mvT hZ (own_w72 hw)) (mvT hZ (own_w73 hw)) (by decide) (backOf (W := 0) (rm16 l Z a0 hw [] (-1 : Int32) (-1 : Int32) h0 n0 O0 ) hZ (own_w73 hw) (own_w72 hw) (by decide) (by decide)) (g := (mkF m 14 #[.val (.ref b1), .val (.int p1), .val (.int (-1)), .unset] [(.int (-1)), (.int (-1))])) rfl (by rw [hml]; rfl) (argsL := [(.int (-1)), (.int (-1))]) (rest := []) (lenOf pd_10 rfl) rfl (by show 2 * 0 + _ ≤ _; exact Nat.le_of_eq rfl) (hb hby d14_14) (fun _ _ => ⟨rfl, eh1, (by decide : 0 + 0 ≤ _), (by decide : 0 + 0 ≤ _)⟩)
    dsimp only [Pt.U, Pt.locs, Pt.cells, Pt.slots] at X3 ql3 qy3 qz3 st3 hQ3
    rw [ql3, qy3, qz3] at X3
    obtain ⟨rfl, Nq3, eh3⟩ := hQ3
    have N3 := Fr.app N1 Nq3
    refine Goes.step (B := T3.setTop (mkF m 17 #[.val (.ref b1), .val (.int p1), .val (.int (-1)), .unset] [(.int (own_min (-1 : Int32) (-1 : Int32)))])) st3 ?_
    rw [(own_mnq (Int.le_refl _) : (own_min (-1 : Int32) (-1 : Int32)) = (-1 : Int32))]
    refine Goes.step (fun _ k => pw_istoreN X3.here hx (l' := #[.val (.ref b1), .val (.int p1), .val (.int (-1)), .val (.int (-1))]) (hb hby d14_17) rfl _ (pw_iloadN X3.here hx (hb hby d14_18) rfl _ (pw_ifYes X3.here hx (pc' := 38) (hb hby d14_19) ((if0 _ _).trans (tlt (by decide)).1) (by decide) (by decide) _ (pw_iconst X3.here hx (v := (-1 : Int32)) (hb hby d14_38) rfl _ k)))) ?_
    exact Goes.retI X3 hx eh3 Bd.returns hlk (hb hby d14_39) (by decide) (by decide) (⟨(by rw [show own_lix p1 [] = own_li0 p1 from rfl]; try rfl), N3, rfl⟩)
  · obtain rfl : p2 = (0 : Int32) := hp2.trans (by decide)
    refine Goes.step (fun _ k => pw_iloadN X0.here hx (hb hby d14_0) rfl _ k) ?_
    obtain ⟨_, _, ⟨T4, qL4, qk4, qn4⟩, -, X4, ⟨Lc4, hQ4, ql4, qy4, qz4⟩, st4⟩ := Jvm.LawKit.callS X0 hx (y := (⟨"java/lang/StringLatin1", "canEncode", "(I)Z"⟩ : MethodName)) hown (mvT hZ (own_w67 hw)) (mvT hZ (own_w68 hw)) (mvT hZ (own_w65 hw)) (mvT hZ (own_w69 hw)) (by decide) (backOf (W := 0) (rm15 l Z a0 hw [] p1 h0 n0 O0 hp0 hp1) hZ (own_w69 hw) (own_w65 hw) (by decide) (by decide)) (g := (mkF m 1 #[.val (.ref b1), .val (.int p1), .val (.int 0), .unset] [(.int p1)])) rfl (by rw [hml]; rfl) (argsL := [(.int p1)]) (rest := []) (lenOf pd_17 rfl) rfl (by show 2 * 0 + _ ≤ _; exact Nat.le_of_eq rfl) (hb hby d14_1) (fun _ _ => ⟨rfl, e0, (by decide : 0 + 0 ≤ _), (by decide : 0 + 0 ≤ _)⟩)
    dsimp only [Pt.U, Pt.locs, Pt.cells, Pt.slots] at X4 ql4 qy4 qz4 st4 hQ4
    rw [ql4, qy4, qz4] at X4
    obtain ⟨rfl, Nq4, eh4⟩ := hQ4
    have N4 := Fr.app N0 Nq4
    refine Goes.step (B := T4.setTop (mkF m 4 #[.val (.ref b1), .val (.int p1), .val (.int 0), .unset] [(.int 1)])) st4 ?_
    refine Goes.step (fun _ k => pw_ifYes X4.here hx (pc' := 9) (hb hby d14_4) ((if0 _ _).trans (feq (by decide)).2) (by decide) (by decide) _ (pw_iloadN X4.here hx (hb hby d14_9) rfl _ (pw_aloadN X4.here hx (hb hby d14_10) rfl rfl _ k))) ?_
    obtain ⟨c5, Ar5, -, Sz5, Nn5, -, -⟩ := id V1
    have len5 := X4.arraylength hx (by rw [eh4]; exact Ar5.1) (State.isArrayOf_alike hZ.alike Ar5.2.1) (g := (mkF m 11 #[.val (.ref b1), .val (.int p1), .val (.int 0), .unset] [(.ref b1), (.int 0)])) rfl rfl (hb hby d14_11)
    rw [len_of Sz5 Nn5] at len5
    refine Goes.step (B := T4.setTop (mkF m 12 #[.val (.ref b1), .val (.int p1), .val (.int 0), .unset] [(.int 1), (.int 0)])) len5 ?_
    refine Goes.step (fun _ k => pw_iconst X4.here hx (v := (1 : Int32)) (hb hby d14_12) rfl _ k) ?_
    refine Goes.step (B := T4.setTop (mkF m 14 #[.val (.ref b1), .val (.int p1), .val (.int 0), .unset] [(.int 0), (.int 0)])) (fun _ k => XS.isub X4.here hx rfl (hb hby d14_13) rfl k) ?_
    obtain ⟨_, _, ⟨T6, qL6, qk6, qn6⟩, -, X6, ⟨Lc6, hQ6, ql6, qy6, qz6⟩, st6⟩ := Jvm.LawKit.callS X4 hx (y := (⟨"java/lang/Math", "min", "(II)I"⟩ : MethodName)) hown (mvT hZ (own_w70 hw)) (mvT hZ (own_w71 hw)) (mvT hZ (own_w72 hw)) (mvT hZ (own_w73 hw)) (by decide) (backOf (W := 0) (rm16 l Z a0 hw [] (0 : Int32) (0 : Int32) h0 n0 O0 ) hZ (own_w73 hw) (own_w72 hw) (by decide) (by decide)) (g := (mkF m 14 #[.val (.ref b1), .val (.int p1), .val (.int 0), .unset] [(.int 0), (.int 0)])) rfl (by rw [hml]; rfl) (argsL := [(.int 0), (.int 0)]) (rest := []) (lenOf pd_10 rfl) rfl (by show 2 * 0 + _ ≤ _; exact Nat.le_of_eq rfl) (hb hby d14_14) (fun _ _ => ⟨rfl, eh4, (by decide : 0 + 0 ≤ _), (by decide : 0 + 0 ≤ _)⟩)
    dsimp only [Pt.U, Pt.locs, Pt.cells, Pt.slots] at X6 ql6 qy6 qz6 st6 hQ6
    rw [ql6, qy6, qz6] at X6
    obtain ⟨rfl, Nq6, eh6⟩ := hQ6
    have N6 := Fr.app N4 Nq6
    refine Goes.step (B := T6.setTop (mkF m 17 #[.val (.ref b1), .val (.int p1), .val (.int 0), .unset] [(.int (own_min (0 : Int32) (0 : Int32)))])) st6 ?_
    rw [(own_mnq (Int.le_refl _) : (own_min (0 : Int32) (0 : Int32)) = (0 : Int32))]
    refine Goes.step (fun _ k => pw_istoreN X6.here hx (l' := #[.val (.ref b1), .val (.int p1), .val (.int 0), .val (.int 0)]) (hb hby d14_17) rfl _ (pw_iloadN X6.here hx (hb hby d14_18) rfl _ (pw_ifNo X6.here hx (hb hby d14_19) ((if0 _ _).trans (flt (by decide)).1) _ (pw_aloadN X6.here hx (hb hby d14_22) rfl rfl _ (pw_iloadN X6.here hx (hb hby d14_23) rfl _ k))))) ?_
    obtain ⟨c7, Ar7, -, Sz7, Nn7, Hs7, -⟩ := id V1
    have hin7 : ¬ ((0 : Int32) < 0 ∨ c7.slots.size ≤ ((0 : Int32)).toNatClampNeg) := inb_of Sz7 ⟨by decide, by decide⟩
    refine Goes.step (B := T6.setTop (mkF m 25 #[.val (.ref b1), .val (.int p1), .val (.int 0), .val (.int 0)] [(.int x0)])) (X6.baloadBytes hx (j := (0 : Int32)) (v := (.int x0)) (by rw [eh6]; exact Ar7.1) (State.isArrayOf_alike hZ.alike Ar7.2.1) Ar7.2.2 hin7 (Has.at Hs7 hin7 rfl) (g := (mkF m 24 #[.val (.ref b1), .val (.int p1), .val (.int 0), .val (.int 0)] [(.int 0), (.ref b1)])) rfl rfl (hb hby d14_24)) ?_
    refine Goes.step (fun _ k => pw_iloadN X6.here hx (hb hby d14_25) rfl _ k) ?_
    refine Goes.step (B := T6.setTop (mkF m 27 #[.val (.ref b1), .val (.int p1), .val (.int 0), .val (.int 0)] [(.int (p1.toInt8.toInt32)), (.int x0)])) (fun _ k => XS.i2b X6.here hx rfl (hb hby d14_26) rfl k) ?_
    by_cases hc27_7 : x0 = (p1.toInt8.toInt32)
    · refine Goes.step (fun _ k => pw_icmpNo X6.here hx (hb hby d14_27) (teq hc27_7).2 _ (pw_iloadN X6.here hx (hb hby d14_30) rfl _ k)) ?_
      exact Goes.retI X6 hx eh6 Bd.returns hlk (hb hby d14_31) (by decide) (by decide) (⟨(by rw [show own_lix p1 [x0] = own_li1 p1 x0 from rfl, own_li1, if_pos hc27_7]; try rfl), N6, rfl⟩)
    · refine Goes.step (fun _ k => pw_icmpYes X6.here hx (pc' := 32) (hb hby d14_27) (feq hc27_7).2 (by decide) (by decide) _ (pw_iinc X6.here hx (l' := #[.val (.ref b1), .val (.int p1), .val (.int 0), .val (.int (-1))]) (hb hby d14_32) rfl rfl _ (pw_goto X6.here hx (pc' := 18) (hb hby d14_35) (by decide) (by decide) _ (pw_iloadN X6.here hx (hb hby d14_18) rfl _ (pw_ifYes X6.here hx (pc' := 38) (hb hby d14_19) ((if0 _ _).trans (tlt (by decide)).1) (by decide) (by decide) _ (pw_iconst X6.here hx (v := (-1 : Int32)) (hb hby d14_38) rfl _ k)))))) ?_
      exact Goes.retI X6 hx eh6 Bd.returns hlk (hb hby d14_39) (by decide) (by decide) (⟨(by rw [show own_lix p1 [x0] = own_li1 p1 x0 from rfl, own_li1, if_neg hc27_7]; try rfl), N6, rfl⟩)
  · obtain rfl : p2 = (1 : Int32) := hp2.trans (by decide)
    refine Goes.step (fun _ k => pw_iloadN X0.here hx (hb hby d14_0) rfl _ k) ?_
    obtain ⟨_, _, ⟨T9, qL9, qk9, qn9⟩, -, X9, ⟨Lc9, hQ9, ql9, qy9, qz9⟩, st9⟩ := Jvm.LawKit.callS X0 hx (y := (⟨"java/lang/StringLatin1", "canEncode", "(I)Z"⟩ : MethodName)) hown (mvT hZ (own_w67 hw)) (mvT hZ (own_w68 hw)) (mvT hZ (own_w65 hw)) (mvT hZ (own_w69 hw)) (by decide) (backOf (W := 0) (rm15 l Z a0 hw [] p1 h0 n0 O0 hp0 hp1) hZ (own_w69 hw) (own_w65 hw) (by decide) (by decide)) (g := (mkF m 1 #[.val (.ref b1), .val (.int p1), .val (.int 1), .unset] [(.int p1)])) rfl (by rw [hml]; rfl) (argsL := [(.int p1)]) (rest := []) (lenOf pd_17 rfl) rfl (by show 2 * 0 + _ ≤ _; exact Nat.le_of_eq rfl) (hb hby d14_1) (fun _ _ => ⟨rfl, e0, (by decide : 0 + 0 ≤ _), (by decide : 0 + 0 ≤ _)⟩)
    dsimp only [Pt.U, Pt.locs, Pt.cells, Pt.slots] at X9 ql9 qy9 qz9 st9 hQ9
    rw [ql9, qy9, qz9] at X9
    obtain ⟨rfl, Nq9, eh9⟩ := hQ9
    have N9 := Fr.app N0 Nq9
    refine Goes.step (B := T9.setTop (mkF m 4 #[.val (.ref b1), .val (.int p1), .val (.int 1), .unset] [(.int 1)])) st9 ?_
    refine Goes.step (fun _ k => pw_ifYes X9.here hx (pc' := 9) (hb hby d14_4) ((if0 _ _).trans (feq (by decide)).2) (by decide) (by decide) _ (pw_iloadN X9.here hx (hb hby d14_9) rfl _ (pw_aloadN X9.here hx (hb hby d14_10) rfl rfl _ k))) ?_
    obtain ⟨c10, Ar10, -, Sz10, Nn10, -, -⟩ := id V1
    have len10 := X9.arraylength hx (by rw [eh9]; exact Ar10.1) (State.isArrayOf_alike hZ.alike Ar10.2.1) (g := (mkF m 11 #[.val (.ref b1), .val (.int p1), .val (.int 1), .unset] [(.ref b1), (.int 1)])) rfl rfl (hb hby d14_11)
    rw [len_of Sz10 Nn10] at len10
    refine Goes.step (B := T9.setTop (mkF m 12 #[.val (.ref b1), .val (.int p1), .val (.int 1), .unset] [(.int 2), (.int 1)])) len10 ?_
    refine Goes.step (fun _ k => pw_iconst X9.here hx (v := (1 : Int32)) (hb hby d14_12) rfl _ k) ?_
    refine Goes.step (B := T9.setTop (mkF m 14 #[.val (.ref b1), .val (.int p1), .val (.int 1), .unset] [(.int 1), (.int 1)])) (fun _ k => XS.isub X9.here hx rfl (hb hby d14_13) rfl k) ?_
    obtain ⟨_, _, ⟨T11, qL11, qk11, qn11⟩, -, X11, ⟨Lc11, hQ11, ql11, qy11, qz11⟩, st11⟩ := Jvm.LawKit.callS X9 hx (y := (⟨"java/lang/Math", "min", "(II)I"⟩ : MethodName)) hown (mvT hZ (own_w70 hw)) (mvT hZ (own_w71 hw)) (mvT hZ (own_w72 hw)) (mvT hZ (own_w73 hw)) (by decide) (backOf (W := 0) (rm16 l Z a0 hw [] (1 : Int32) (1 : Int32) h0 n0 O0 ) hZ (own_w73 hw) (own_w72 hw) (by decide) (by decide)) (g := (mkF m 14 #[.val (.ref b1), .val (.int p1), .val (.int 1), .unset] [(.int 1), (.int 1)])) rfl (by rw [hml]; rfl) (argsL := [(.int 1), (.int 1)]) (rest := []) (lenOf pd_10 rfl) rfl (by show 2 * 0 + _ ≤ _; exact Nat.le_of_eq rfl) (hb hby d14_14) (fun _ _ => ⟨rfl, eh9, (by decide : 0 + 0 ≤ _), (by decide : 0 + 0 ≤ _)⟩)
    dsimp only [Pt.U, Pt.locs, Pt.cells, Pt.slots] at X11 ql11 qy11 qz11 st11 hQ11
    rw [ql11, qy11, qz11] at X11
    obtain ⟨rfl, Nq11, eh11⟩ := hQ11
    have N11 := Fr.app N9 Nq11
    refine Goes.step (B := T11.setTop (mkF m 17 #[.val (.ref b1), .val (.int p1), .val (.int 1), .unset] [(.int (own_min (1 : Int32) (1 : Int32)))])) st11 ?_
    rw [(own_mnq (Int.le_refl _) : (own_min (1 : Int32) (1 : Int32)) = (1 : Int32))]
    refine Goes.step (fun _ k => pw_istoreN X11.here hx (l' := #[.val (.ref b1), .val (.int p1), .val (.int 1), .val (.int 1)]) (hb hby d14_17) rfl _ (pw_iloadN X11.here hx (hb hby d14_18) rfl _ (pw_ifNo X11.here hx (hb hby d14_19) ((if0 _ _).trans (flt (by decide)).1) _ (pw_aloadN X11.here hx (hb hby d14_22) rfl rfl _ (pw_iloadN X11.here hx (hb hby d14_23) rfl _ k))))) ?_
    obtain ⟨c12, Ar12, -, Sz12, Nn12, Hs12, -⟩ := id V1
    have hin12 : ¬ ((1 : Int32) < 0 ∨ c12.slots.size ≤ ((1 : Int32)).toNatClampNeg) := inb_of Sz12 ⟨by decide, by decide⟩
    refine Goes.step (B := T11.setTop (mkF m 25 #[.val (.ref b1), .val (.int p1), .val (.int 1), .val (.int 1)] [(.int x1)])) (X11.baloadBytes hx (j := (1 : Int32)) (v := (.int x1)) (by rw [eh11]; exact Ar12.1) (State.isArrayOf_alike hZ.alike Ar12.2.1) Ar12.2.2 hin12 (Has.at Hs12 hin12 rfl) (g := (mkF m 24 #[.val (.ref b1), .val (.int p1), .val (.int 1), .val (.int 1)] [(.int 1), (.ref b1)])) rfl rfl (hb hby d14_24)) ?_
    refine Goes.step (fun _ k => pw_iloadN X11.here hx (hb hby d14_25) rfl _ k) ?_
    refine Goes.step (B := T11.setTop (mkF m 27 #[.val (.ref b1), .val (.int p1), .val (.int 1), .val (.int 1)] [(.int (p1.toInt8.toInt32)), (.int x1)])) (fun _ k => XS.i2b X11.here hx rfl (hb hby d14_26) rfl k) ?_
    by_cases hc27_12 : x1 = (p1.toInt8.toInt32)
    · refine Goes.step (fun _ k => pw_icmpNo X11.here hx (hb hby d14_27) (teq hc27_12).2 _ (pw_iloadN X11.here hx (hb hby d14_30) rfl _ k)) ?_
      exact Goes.retI X11 hx eh11 Bd.returns hlk (hb hby d14_31) (by decide) (by decide) (⟨(by rw [show own_lix p1 [x0, x1] = own_li2 p1 x0 x1 from rfl, own_li2, if_pos hc27_12]; try rfl), N11, rfl⟩)
    · refine Goes.step (fun _ k => pw_icmpYes X11.here hx (pc' := 32) (hb hby d14_27) (feq hc27_12).2 (by decide) (by decide) _ (pw_iinc X11.here hx (l' := #[.val (.ref b1), .val (.int p1), .val (.int 1), .val (.int 0)]) (hb hby d14_32) rfl rfl _ (pw_goto X11.here hx (pc' := 18) (hb hby d14_35) (by decide) (by decide) _ (pw_iloadN X11.here hx (hb hby d14_18) rfl _ (pw_ifNo X11.here hx (hb hby d14_19) ((if0 _ _).trans (flt (by decide)).1) _ (pw_aloadN X11.here hx (hb hby d14_22) rfl rfl _ k)))))) ?_
      refine Goes.step (fun _ k => pw_iloadN X11.here hx (hb hby d14_23) rfl _ k) ?_
      obtain ⟨c14, Ar14, -, Sz14, Nn14, Hs14, -⟩ := id V1
      have hin14 : ¬ ((0 : Int32) < 0 ∨ c14.slots.size ≤ ((0 : Int32)).toNatClampNeg) := inb_of Sz14 ⟨by decide, by decide⟩
      refine Goes.step (B := T11.setTop (mkF m 25 #[.val (.ref b1), .val (.int p1), .val (.int 1), .val (.int 0)] [(.int x0)])) (X11.baloadBytes hx (j := (0 : Int32)) (v := (.int x0)) (by rw [eh11]; exact Ar14.1) (State.isArrayOf_alike hZ.alike Ar14.2.1) Ar14.2.2 hin14 (Has.at Hs14 hin14 rfl) (g := (mkF m 24 #[.val (.ref b1), .val (.int p1), .val (.int 1), .val (.int 0)] [(.int 0), (.ref b1)])) rfl rfl (hb hby d14_24)) ?_
      refine Goes.step (fun _ k => pw_iloadN X11.here hx (hb hby d14_25) rfl _ k) ?_
      refine Goes.step (B := T11.setTop (mkF m 27 #[.val (.ref b1), .val (.int p1), .val (.int 1), .val (.int 0)] [(.int (p1.toInt8.toInt32)), (.int x0)])) (fun _ k => XS.i2b X11.here hx rfl (hb hby d14_26) rfl k) ?_
      by_cases hc27_14 : x0 = (p1.toInt8.toInt32)
      · refine Goes.step (fun _ k => pw_icmpNo X11.here hx (hb hby d14_27) (teq hc27_14).2 _ (pw_iloadN X11.here hx (hb hby d14_30) rfl _ k)) ?_
        exact Goes.retI X11 hx eh11 Bd.returns hlk (hb hby d14_31) (by decide) (by decide) (⟨(by rw [show own_lix p1 [x0, x1] = own_li2 p1 x0 x1 from rfl, own_li2, if_neg hc27_12, own_li1, if_pos hc27_14]; try rfl), N11, rfl⟩)
      · refine Goes.step (fun _ k => pw_icmpYes X11.here hx (pc' := 32) (hb hby d14_27) (feq hc27_14).2 (by decide) (by decide) _ (pw_iinc X11.here hx (l' := #[.val (.ref b1), .val (.int p1), .val (.int 1), .val (.int (-1))]) (hb hby d14_32) rfl rfl _ (pw_goto X11.here hx (pc' := 18) (hb hby d14_35) (by decide) (by decide) _ (pw_iloadN X11.here hx (hb hby d14_18) rfl _ (pw_ifYes X11.here hx (pc' := 38) (hb hby d14_19) ((if0 _ _).trans (tlt (by decide)).1) (by decide) (by decide) _ (pw_iconst X11.here hx (v := (-1 : Int32)) (hb hby d14_38) rfl _ k)))))) ?_
        exact Goes.retI X11 hx eh11 Bd.returns hlk (hb hby d14_39) (by decide) (by decide) (⟨(by rw [show own_lix p1 [x0, x1] = own_li2 p1 x0 x1 from rfl, own_li2, if_neg hc27_12, own_li1, if_neg hc27_14]; try rfl), N11, rfl⟩)
  · obtain rfl : p2 = (2 : Int32) := hp2.trans (by decide)
    refine Goes.step (fun _ k => pw_iloadN X0.here hx (hb hby d14_0) rfl _ k) ?_
    obtain ⟨_, _, ⟨T16, qL16, qk16, qn16⟩, -, X16, ⟨Lc16, hQ16, ql16, qy16, qz16⟩, st16⟩ := Jvm.LawKit.callS X0 hx (y := (⟨"java/lang/StringLatin1", "canEncode", "(I)Z"⟩ : MethodName)) hown (mvT hZ (own_w67 hw)) (mvT hZ (own_w68 hw)) (mvT hZ (own_w65 hw)) (mvT hZ (own_w69 hw)) (by decide) (backOf (W := 0) (rm15 l Z a0 hw [] p1 h0 n0 O0 hp0 hp1) hZ (own_w69 hw) (own_w65 hw) (by decide) (by decide)) (g := (mkF m 1 #[.val (.ref b1), .val (.int p1), .val (.int 2), .unset] [(.int p1)])) rfl (by rw [hml]; rfl) (argsL := [(.int p1)]) (rest := []) (lenOf pd_17 rfl) rfl (by show 2 * 0 + _ ≤ _; exact Nat.le_of_eq rfl) (hb hby d14_1) (fun _ _ => ⟨rfl, e0, (by decide : 0 + 0 ≤ _), (by decide : 0 + 0 ≤ _)⟩)
    dsimp only [Pt.U, Pt.locs, Pt.cells, Pt.slots] at X16 ql16 qy16 qz16 st16 hQ16
    rw [ql16, qy16, qz16] at X16
    obtain ⟨rfl, Nq16, eh16⟩ := hQ16
    have N16 := Fr.app N0 Nq16
    refine Goes.step (B := T16.setTop (mkF m 4 #[.val (.ref b1), .val (.int p1), .val (.int 2), .unset] [(.int 1)])) st16 ?_
    refine Goes.step (fun _ k => pw_ifYes X16.here hx (pc' := 9) (hb hby d14_4) ((if0 _ _).trans (feq (by decide)).2) (by decide) (by decide) _ (pw_iloadN X16.here hx (hb hby d14_9) rfl _ (pw_aloadN X16.here hx (hb hby d14_10) rfl rfl _ k))) ?_
    obtain ⟨c17, Ar17, -, Sz17, Nn17, -, -⟩ := id V1
    have len17 := X16.arraylength hx (by rw [eh16]; exact Ar17.1) (State.isArrayOf_alike hZ.alike Ar17.2.1) (g := (mkF m 11 #[.val (.ref b1), .val (.int p1), .val (.int 2), .unset] [(.ref b1), (.int 2)])) rfl rfl (hb hby d14_11)
    rw [len_of Sz17 Nn17] at len17
    refine Goes.step (B := T16.setTop (mkF m 12 #[.val (.ref b1), .val (.int p1), .val (.int 2), .unset] [(.int 3), (.int 2)])) len17 ?_
    refine Goes.step (fun _ k => pw_iconst X16.here hx (v := (1 : Int32)) (hb hby d14_12) rfl _ k) ?_
    refine Goes.step (B := T16.setTop (mkF m 14 #[.val (.ref b1), .val (.int p1), .val (.int 2), .unset] [(.int 2), (.int 2)])) (fun _ k => XS.isub X16.here hx rfl (hb hby d14_13) rfl k) ?_
    obtain ⟨_, _, ⟨T18, qL18, qk18, qn18⟩, -, X18, ⟨Lc18, hQ18, ql18, qy18, qz18⟩, st18⟩ := Jvm.LawKit.callS X16 hx (y := (⟨"java/lang/Math", "min", "(II)I"⟩ : MethodName)) hown (mvT hZ (own_w70 hw)) (mvT hZ (own_w71 hw)) (mvT hZ (own_w72 hw)) (mvT hZ (own_w73 hw)) (by decide) (backOf (W := 0) (rm16 l Z a0 hw [] (2 : Int32) (2 : Int32) h0 n0 O0 ) hZ (own_w73 hw) (own_w72 hw) (by decide) (by decide)) (g := (mkF m 14 #[.val (.ref b1), .val (.int p1), .val (.int 2), .unset] [(.int 2), (.int 2)])) rfl (by rw [hml]; rfl) (argsL := [(.int 2), (.int 2)]) (rest := []) (lenOf pd_10 rfl) rfl (by show 2 * 0 + _ ≤ _; exact Nat.le_of_eq rfl) (hb hby d14_14) (fun _ _ => ⟨rfl, eh16, (by decide : 0 + 0 ≤ _), (by decide : 0 + 0 ≤ _)⟩)
    dsimp only [Pt.U, Pt.locs, Pt.cells, Pt.slots] at X18 ql18 qy18 qz18 st18 hQ18
    rw [ql18, qy18, qz18] at X18
    obtain ⟨rfl, Nq18, eh18⟩ := hQ18
    have N18 := Fr.app N16 Nq18
    refine Goes.step (B := T18.setTop (mkF m 17 #[.val (.ref b1), .val (.int p1), .val (.int 2), .unset] [(.int (own_min (2 : Int32) (2 : Int32)))])) st18 ?_
    rw [(own_mnq (Int.le_refl _) : (own_min (2 : Int32) (2 : Int32)) = (2 : Int32))]
    refine Goes.step (fun _ k => pw_istoreN X18.here hx (l' := #[.val (.ref b1), .val (.int p1), .val (.int 2), .val (.int 2)]) (hb hby d14_17) rfl _ (pw_iloadN X18.here hx (hb hby d14_18) rfl _ (pw_ifNo X18.here hx (hb hby d14_19) ((if0 _ _).trans (flt (by decide)).1) _ (pw_aloadN X18.here hx (hb hby d14_22) rfl rfl _ (pw_iloadN X18.here hx (hb hby d14_23) rfl _ k))))) ?_
    obtain ⟨c19, Ar19, -, Sz19, Nn19, Hs19, -⟩ := id V1
    have hin19 : ¬ ((2 : Int32) < 0 ∨ c19.slots.size ≤ ((2 : Int32)).toNatClampNeg) := inb_of Sz19 ⟨by decide, by decide⟩
    refine Goes.step (B := T18.setTop (mkF m 25 #[.val (.ref b1), .val (.int p1), .val (.int 2), .val (.int 2)] [(.int x2)])) (X18.baloadBytes hx (j := (2 : Int32)) (v := (.int x2)) (by rw [eh18]; exact Ar19.1) (State.isArrayOf_alike hZ.alike Ar19.2.1) Ar19.2.2 hin19 (Has.at Hs19 hin19 rfl) (g := (mkF m 24 #[.val (.ref b1), .val (.int p1), .val (.int 2), .val (.int 2)] [(.int 2), (.ref b1)])) rfl rfl (hb hby d14_24)) ?_
    refine Goes.step (fun _ k => pw_iloadN X18.here hx (hb hby d14_25) rfl _ k) ?_
    refine Goes.step (B := T18.setTop (mkF m 27 #[.val (.ref b1), .val (.int p1), .val (.int 2), .val (.int 2)] [(.int (p1.toInt8.toInt32)), (.int x2)])) (fun _ k => XS.i2b X18.here hx rfl (hb hby d14_26) rfl k) ?_
    by_cases hc27_19 : x2 = (p1.toInt8.toInt32)
    · refine Goes.step (fun _ k => pw_icmpNo X18.here hx (hb hby d14_27) (teq hc27_19).2 _ (pw_iloadN X18.here hx (hb hby d14_30) rfl _ k)) ?_
      exact Goes.retI X18 hx eh18 Bd.returns hlk (hb hby d14_31) (by decide) (by decide) (⟨(by rw [show own_lix p1 [x0, x1, x2] = own_li3 p1 x0 x1 x2 from rfl, own_li3, if_pos hc27_19]; try rfl), N18, rfl⟩)
    · refine Goes.step (fun _ k => pw_icmpYes X18.here hx (pc' := 32) (hb hby d14_27) (feq hc27_19).2 (by decide) (by decide) _ (pw_iinc X18.here hx (l' := #[.val (.ref b1), .val (.int p1), .val (.int 2), .val (.int 1)]) (hb hby d14_32) rfl rfl _ (pw_goto X18.here hx (pc' := 18) (hb hby d14_35) (by decide) (by decide) _ (pw_iloadN X18.here hx (hb hby d14_18) rfl _ (pw_ifNo X18.here hx (hb hby d14_19) ((if0 _ _).trans (flt (by decide)).1) _ (pw_aloadN X18.here hx (hb hby d14_22) rfl rfl _ k)))))) ?_
      refine Goes.step (fun _ k => pw_iloadN X18.here hx (hb hby d14_23) rfl _ k) ?_
      obtain ⟨c21, Ar21, -, Sz21, Nn21, Hs21, -⟩ := id V1
      have hin21 : ¬ ((1 : Int32) < 0 ∨ c21.slots.size ≤ ((1 : Int32)).toNatClampNeg) := inb_of Sz21 ⟨by decide, by decide⟩
      refine Goes.step (B := T18.setTop (mkF m 25 #[.val (.ref b1), .val (.int p1), .val (.int 2), .val (.int 1)] [(.int x1)])) (X18.baloadBytes hx (j := (1 : Int32)) (v := (.int x1)) (by rw [eh18]; exact Ar21.1) (State.isArrayOf_alike hZ.alike Ar21.2.1) Ar21.2.2 hin21 (Has.at Hs21 hin21 rfl) (g := (mkF m 24 #[.val (.ref b1), .val (.int p1), .val (.int 2), .val (.int 1)] [(.int 1), (.ref b1)])) rfl rfl (hb hby d14_24)) ?_
      refine Goes.step (fun _ k => pw_iloadN X18.here hx (hb hby d14_25) rfl _ k) ?_
      refine Goes.step (B := T18.setTop (mkF m 27 #[.val (.ref b1), .val (.int p1), .val (.int 2), .val (.int 1)] [(.int (p1.toInt8.toInt32)), (.int x1)])) (fun _ k => XS.i2b X18.here hx rfl (hb hby d14_26) rfl k) ?_
      by_cases hc27_21 : x1 = (p1.toInt8.toInt32)
      · refine Goes.step (fun _ k => pw_icmpNo X18.here hx (hb hby d14_27) (teq hc27_21).2 _ (pw_iloadN X18.here hx (hb hby d14_30) rfl _ k)) ?_
        exact Goes.retI X18 hx eh18 Bd.returns hlk (hb hby d14_31) (by decide) (by decide) (⟨(by rw [show own_lix p1 [x0, x1, x2] = own_li3 p1 x0 x1 x2 from rfl, own_li3, if_neg hc27_19, own_li2, if_pos hc27_21]; try rfl), N18, rfl⟩)
      · refine Goes.step (fun _ k => pw_icmpYes X18.here hx (pc' := 32) (hb hby d14_27) (feq hc27_21).2 (by decide) (by decide) _ (pw_iinc X18.here hx (l' := #[.val (.ref b1), .val (.int p1), .val (.int 2), .val (.int 0)]) (hb hby d14_32) rfl rfl _ (pw_goto X18.here hx (pc' := 18) (hb hby d14_35) (by decide) (by decide) _ (pw_iloadN X18.here hx (hb hby d14_18) rfl _ (pw_ifNo X18.here hx (hb hby d14_19) ((if0 _ _).trans (flt (by decide)).1) _ (pw_aloadN X18.here hx (hb hby d14_22) rfl rfl _ k)))))) ?_
        refine Goes.step (fun _ k => pw_iloadN X18.here hx (hb hby d14_23) rfl _ k) ?_
        obtain ⟨c23, Ar23, -, Sz23, Nn23, Hs23, -⟩ := id V1
        have hin23 : ¬ ((0 : Int32) < 0 ∨ c23.slots.size ≤ ((0 : Int32)).toNatClampNeg) := inb_of Sz23 ⟨by decide, by decide⟩
        refine Goes.step (B := T18.setTop (mkF m 25 #[.val (.ref b1), .val (.int p1), .val (.int 2), .val (.int 0)] [(.int x0)])) (X18.baloadBytes hx (j := (0 : Int32)) (v := (.int x0)) (by rw [eh18]; exact Ar23.1) (State.isArrayOf_alike hZ.alike Ar23.2.1) Ar23.2.2 hin23 (Has.at Hs23 hin23 rfl) (g := (mkF m 24 #[.val (.ref b1), .val (.int p1), .val (.int 2), .val (.int 0)] [(.int 0), (.ref b1)])) rfl rfl (hb hby d14_24)) ?_
        refine Goes.step (fun _ k => pw_iloadN X18.here hx (hb hby d14_25) rfl _ k) ?_
        refine Goes.step (B := T18.setTop (mkF m 27 #[.val (.ref b1), .val (.int p1), .val (.int 2), .val (.int 0)] [(.int (p1.toInt8.toInt32)), (.int x0)])) (fun _ k => XS.i2b X18.here hx rfl (hb hby d14_26) rfl k) ?_
        by_cases hc27_23 : x0 = (p1.toInt8.toInt32)
        · refine Goes.step (fun _ k => pw_icmpNo X18.here hx (hb hby d14_27) (teq hc27_23).2 _ (pw_iloadN X18.here hx (hb hby d14_30) rfl _ k)) ?_
          exact Goes.retI X18 hx eh18 Bd.returns hlk (hb hby d14_31) (by decide) (by decide) (⟨(by rw [show own_lix p1 [x0, x1, x2] = own_li3 p1 x0 x1 x2 from rfl, own_li3, if_neg hc27_19, own_li2, if_neg hc27_21, own_li1, if_pos hc27_23]; try rfl), N18, rfl⟩)
        · refine Goes.step (fun _ k => pw_icmpYes X18.here hx (pc' := 32) (hb hby d14_27) (feq hc27_23).2 (by decide) (by decide) _ (pw_iinc X18.here hx (l' := #[.val (.ref b1), .val (.int p1), .val (.int 2), .val (.int (-1))]) (hb hby d14_32) rfl rfl _ (pw_goto X18.here hx (pc' := 18) (hb hby d14_35) (by decide) (by decide) _ (pw_iloadN X18.here hx (hb hby d14_18) rfl _ (pw_ifYes X18.here hx (pc' := 38) (hb hby d14_19) ((if0 _ _).trans (tlt (by decide)).1) (by decide) (by decide) _ (pw_iconst X18.here hx (v := (-1 : Int32)) (hb hby d14_38) rfl _ k)))))) ?_
          exact Goes.retI X18 hx eh18 Bd.returns hlk (hb hby d14_39) (by decide) (by decide) (⟨(by rw [show own_lix p1 [x0, x1, x2] = own_li3 p1 x0 x1 x2 from rfl, own_li3, if_neg hc27_19, own_li2, if_neg hc27_21, own_li1, if_neg hc27_23]; try rfl), N18, rfl⟩)
  · obtain rfl : p2 = (3 : Int32) := hp2.trans (by decide)
    refine Goes.step (fun _ k => pw_iloadN X0.here hx (hb hby d14_0) rfl _ k) ?_
    obtain ⟨_, _, ⟨T25, qL25, qk25, qn25⟩, -, X25, ⟨Lc25, hQ25, ql25, qy25, qz25⟩, st25⟩ := Jvm.LawKit.callS X0 hx (y := (⟨"java/lang/StringLatin1", "canEncode", "(I)Z"⟩ : MethodName)) hown (mvT hZ (own_w67 hw)) (mvT hZ (own_w68 hw)) (mvT hZ (own_w65 hw)) (mvT hZ (own_w69 hw)) (by decide) (backOf (W := 0) (rm15 l Z a0 hw [] p1 h0 n0 O0 hp0 hp1) hZ (own_w69 hw) (own_w65 hw) (by decide) (by decide)) (g := (mkF m 1 #[.val (.ref b1), .val (.int p1), .val (.int 3), .unset] [(.int p1)])) rfl (by rw [hml]; rfl) (argsL := [(.int p1)]) (rest := []) (lenOf pd_17 rfl) rfl (by show 2 * 0 + _ ≤ _; exact Nat.le_of_eq rfl) (hb hby d14_1) (fun _ _ => ⟨rfl, e0, (by decide : 0 + 0 ≤ _), (by decide : 0 + 0 ≤ _)⟩)
    dsimp only [Pt.U, Pt.locs, Pt.cells, Pt.slots] at X25 ql25 qy25 qz25 st25 hQ25
    rw [ql25, qy25, qz25] at X25
    obtain ⟨rfl, Nq25, eh25⟩ := hQ25
    have N25 := Fr.app N0 Nq25
    refine Goes.step (B := T25.setTop (mkF m 4 #[.val (.ref b1), .val (.int p1), .val (.int 3), .unset] [(.int 1)])) st25 ?_
    refine Goes.step (fun _ k => pw_ifYes X25.here hx (pc' := 9) (hb hby d14_4) ((if0 _ _).trans (feq (by decide)).2) (by decide) (by decide) _ (pw_iloadN X25.here hx (hb hby d14_9) rfl _ (pw_aloadN X25.here hx (hb hby d14_10) rfl rfl _ k))) ?_
    obtain ⟨c26, Ar26, -, Sz26, Nn26, -, -⟩ := id V1
    have len26 := X25.arraylength hx (by rw [eh25]; exact Ar26.1) (State.isArrayOf_alike hZ.alike Ar26.2.1) (g := (mkF m 11 #[.val (.ref b1), .val (.int p1), .val (.int 3), .unset] [(.ref b1), (.int 3)])) rfl rfl (hb hby d14_11)
    rw [len_of Sz26 Nn26] at len26
    refine Goes.step (B := T25.setTop (mkF m 12 #[.val (.ref b1), .val (.int p1), .val (.int 3), .unset] [(.int 4), (.int 3)])) len26 ?_
    refine Goes.step (fun _ k => pw_iconst X25.here hx (v := (1 : Int32)) (hb hby d14_12) rfl _ k) ?_
    refine Goes.step (B := T25.setTop (mkF m 14 #[.val (.ref b1), .val (.int p1), .val (.int 3), .unset] [(.int 3), (.int 3)])) (fun _ k => XS.isub X25.here hx rfl (hb hby d14_13) rfl k) ?_
    obtain ⟨_, _, ⟨T27, qL27, qk27, qn27⟩, -, X27, ⟨Lc27, hQ27, ql27, qy27, qz27⟩, st27⟩ := Jvm.LawKit.callS X25 hx (y := (⟨"java/lang/Math", "min", "(II)I"⟩ : MethodName)) hown (mvT hZ (own_w70 hw)) (mvT hZ (own_w71 hw)) (mvT hZ (own_w72 hw)) (mvT hZ (own_w73 hw)) (by decide) (backOf (W := 0) (rm16 l Z a0 hw [] (3 : Int32) (3 : Int32) h0 n0 O0 ) hZ (own_w73 hw) (own_w72 hw) (by decide) (by decide)) (g := (mkF m 14 #[.val (.ref b1), .val (.int p1), .val (.int 3), .unset] [(.int 3), (.int 3)])) rfl (by rw [hml]; rfl) (argsL := [(.int 3), (.int 3)]) (rest := []) (lenOf pd_10 rfl) rfl (by show 2 * 0 + _ ≤ _; exact Nat.le_of_eq rfl) (hb hby d14_14) (fun _ _ => ⟨rfl, eh25, (by decide : 0 + 0 ≤ _), (by decide : 0 + 0 ≤ _)⟩)
    dsimp only [Pt.U, Pt.locs, Pt.cells, Pt.slots] at X27 ql27 qy27 qz27 st27 hQ27
    rw [ql27, qy27, qz27] at X27
    obtain ⟨rfl, Nq27, eh27⟩ := hQ27
    have N27 := Fr.app N25 Nq27
    refine Goes.step (B := T27.setTop (mkF m 17 #[.val (.ref b1), .val (.int p1), .val (.int 3), .unset] [(.int (own_min (3 : Int32) (3 : Int32)))])) st27 ?_
    rw [(own_mnq (Int.le_refl _) : (own_min (3 : Int32) (3 : Int32)) = (3 : Int32))]
    refine Goes.step (fun _ k => pw_istoreN X27.here hx (l' := #[.val (.ref b1), .val (.int p1), .val (.int 3), .val (.int 3)]) (hb hby d14_17) rfl _ (pw_iloadN X27.here hx (hb hby d14_18) rfl _ (pw_ifNo X27.here hx (hb hby d14_19) ((if0 _ _).trans (flt (by decide)).1) _ (pw_aloadN X27.here hx (hb hby d14_22) rfl rfl _ (pw_iloadN X27.here hx (hb hby d14_23) rfl _ k))))) ?_
    obtain ⟨c28, Ar28, -, Sz28, Nn28, Hs28, -⟩ := id V1
    have hin28 : ¬ ((3 : Int32) < 0 ∨ c28.slots.size ≤ ((3 : Int32)).toNatClampNeg) := inb_of Sz28 ⟨by decide, by decide⟩
    refine Goes.step (B := T27.setTop (mkF m 25 #[.val (.ref b1), .val (.int p1), .val (.int 3), .val (.int 3)] [(.int x3)])) (X27.baloadBytes hx (j := (3 : Int32)) (v := (.int x3)) (by rw [eh27]; exact Ar28.1) (State.isArrayOf_alike hZ.alike Ar28.2.1) Ar28.2.2 hin28 (Has.at Hs28 hin28 rfl) (g := (mkF m 24 #[.val (.ref b1), .val (.int p1), .val (.int 3), .val (.int 3)] [(.int 3), (.ref b1)])) rfl rfl (hb hby d14_24)) ?_
    refine Goes.step (fun _ k => pw_iloadN X27.here hx (hb hby d14_25) rfl _ k) ?_
    refine Goes.step (B := T27.setTop (mkF m 27 #[.val (.ref b1), .val (.int p1), .val (.int 3), .val (.int 3)] [(.int (p1.toInt8.toInt32)), (.int x3)])) (fun _ k => XS.i2b X27.here hx rfl (hb hby d14_26) rfl k) ?_
    by_cases hc27_28 : x3 = (p1.toInt8.toInt32)
    · refine Goes.step (fun _ k => pw_icmpNo X27.here hx (hb hby d14_27) (teq hc27_28).2 _ (pw_iloadN X27.here hx (hb hby d14_30) rfl _ k)) ?_
      exact Goes.retI X27 hx eh27 Bd.returns hlk (hb hby d14_31) (by decide) (by decide) (⟨(by rw [show own_lix p1 [x0, x1, x2, x3] = own_li4 p1 x0 x1 x2 x3 from rfl, own_li4, if_pos hc27_28]; try rfl), N27, rfl⟩)
    · refine Goes.step (fun _ k => pw_icmpYes X27.here hx (pc' := 32) (hb hby d14_27) (feq hc27_28).2 (by decide) (by decide) _ (pw_iinc X27.here hx (l' := #[.val (.ref b1), .val (.int p1), .val (.int 3), .val (.int 2)]) (hb hby d14_32) rfl rfl _ (pw_goto X27.here hx (pc' := 18) (hb hby d14_35) (by decide) (by decide) _ (pw_iloadN X27.here hx (hb hby d14_18) rfl _ (pw_ifNo X27.here hx (hb hby d14_19) ((if0 _ _).trans (flt (by decide)).1) _ (pw_aloadN X27.here hx (hb hby d14_22) rfl rfl _ k)))))) ?_
      refine Goes.step (fun _ k => pw_iloadN X27.here hx (hb hby d14_23) rfl _ k) ?_
      obtain ⟨c30, Ar30, -, Sz30, Nn30, Hs30, -⟩ := id V1
      have hin30 : ¬ ((2 : Int32) < 0 ∨ c30.slots.size ≤ ((2 : Int32)).toNatClampNeg) := inb_of Sz30 ⟨by decide, by decide⟩
      refine Goes.step (B := T27.setTop (mkF m 25 #[.val (.ref b1), .val (.int p1), .val (.int 3), .val (.int 2)] [(.int x2)])) (X27.baloadBytes hx (j := (2 : Int32)) (v := (.int x2)) (by rw [eh27]; exact Ar30.1) (State.isArrayOf_alike hZ.alike Ar30.2.1) Ar30.2.2 hin30 (Has.at Hs30 hin30 rfl) (g := (mkF m 24 #[.val (.ref b1), .val (.int p1), .val (.int 3), .val (.int 2)] [(.int 2), (.ref b1)])) rfl rfl (hb hby d14_24)) ?_
      refine Goes.step (fun _ k => pw_iloadN X27.here hx (hb hby d14_25) rfl _ k) ?_
      refine Goes.step (B := T27.setTop (mkF m 27 #[.val (.ref b1), .val (.int p1), .val (.int 3), .val (.int 2)] [(.int (p1.toInt8.toInt32)), (.int x2)])) (fun _ k => XS.i2b X27.here hx rfl (hb hby d14_26) rfl k) ?_
      by_cases hc27_30 : x2 = (p1.toInt8.toInt32)
      · refine Goes.step (fun _ k => pw_icmpNo X27.here hx (hb hby d14_27) (teq hc27_30).2 _ (pw_iloadN X27.here hx (hb hby d14_30) rfl _ k)) ?_
        exact Goes.retI X27 hx eh27 Bd.returns hlk (hb hby d14_31) (by decide) (by decide) (⟨(by rw [show own_lix p1 [x0, x1, x2, x3] = own_li4 p1 x0 x1 x2 x3 from rfl, own_li4, if_neg hc27_28, own_li3, if_pos hc27_30]; try rfl), N27, rfl⟩)
      · refine Goes.step (fun _ k => pw_icmpYes X27.here hx (pc' := 32) (hb hby d14_27) (feq hc27_30).2 (by decide) (by decide) _ (pw_iinc X27.here hx (l' := #[.val (.ref b1), .val (.int p1), .val (.int 3), .val (.int 1)]) (hb hby d14_32) rfl rfl _ (pw_goto X27.here hx (pc' := 18) (hb hby d14_35) (by decide) (by decide) _ (pw_iloadN X27.here hx (hb hby d14_18) rfl _ (pw_ifNo X27.here hx (hb hby d14_19) ((if0 _ _).trans (flt (by decide)).1) _ (pw_aloadN X27.here hx (hb hby d14_22) rfl rfl _ k)))))) ?_
        refine Goes.step (fun _ k => pw_iloadN X27.here hx (hb hby d14_23) rfl _ k) ?_
        obtain ⟨c32, Ar32, -, Sz32, Nn32, Hs32, -⟩ := id V1
        have hin32 : ¬ ((1 : Int32) < 0 ∨ c32.slots.size ≤ ((1 : Int32)).toNatClampNeg) := inb_of Sz32 ⟨by decide, by decide⟩
        refine Goes.step (B := T27.setTop (mkF m 25 #[.val (.ref b1), .val (.int p1), .val (.int 3), .val (.int 1)] [(.int x1)])) (X27.baloadBytes hx (j := (1 : Int32)) (v := (.int x1)) (by rw [eh27]; exact Ar32.1) (State.isArrayOf_alike hZ.alike Ar32.2.1) Ar32.2.2 hin32 (Has.at Hs32 hin32 rfl) (g := (mkF m 24 #[.val (.ref b1), .val (.int p1), .val (.int 3), .val (.int 1)] [(.int 1), (.ref b1)])) rfl rfl (hb hby d14_24)) ?_
        refine Goes.step (fun _ k => pw_iloadN X27.here hx (hb hby d14_25) rfl _ k) ?_
        refine Goes.step (B := T27.setTop (mkF m 27 #[.val (.ref b1), .val (.int p1), .val (.int 3), .val (.int 1)] [(.int (p1.toInt8.toInt32)), (.int x1)])) (fun _ k => XS.i2b X27.here hx rfl (hb hby d14_26) rfl k) ?_
        by_cases hc27_32 : x1 = (p1.toInt8.toInt32)
        · refine Goes.step (fun _ k => pw_icmpNo X27.here hx (hb hby d14_27) (teq hc27_32).2 _ (pw_iloadN X27.here hx (hb hby d14_30) rfl _ k)) ?_
          exact Goes.retI X27 hx eh27 Bd.returns hlk (hb hby d14_31) (by decide) (by decide) (⟨(by rw [show own_lix p1 [x0, x1, x2, x3] = own_li4 p1 x0 x1 x2 x3 from rfl, own_li4, if_neg hc27_28, own_li3, if_neg hc27_30, own_li2, if_pos hc27_32]; try rfl), N27, rfl⟩)
        · refine Goes.step (fun _ k => pw_icmpYes X27.here hx (pc' := 32) (hb hby d14_27) (feq hc27_32).2 (by decide) (by decide) _ (pw_iinc X27.here hx (l' := #[.val (.ref b1), .val (.int p1), .val (.int 3), .val (.int 0)]) (hb hby d14_32) rfl rfl _ (pw_goto X27.here hx (pc' := 18) (hb hby d14_35) (by decide) (by decide) _ (pw_iloadN X27.here hx (hb hby d14_18) rfl _ (pw_ifNo X27.here hx (hb hby d14_19) ((if0 _ _).trans (flt (by decide)).1) _ (pw_aloadN X27.here hx (hb hby d14_22) rfl rfl _ k)))))) ?_
          refine Goes.step (fun _ k => pw_iloadN X27.here hx (hb hby d14_23) rfl _ k) ?_
          obtain ⟨c34, Ar34, -, Sz34, Nn34, Hs34, -⟩ := id V1
          have hin34 : ¬ ((0 : Int32) < 0 ∨ c34.slots.size ≤ ((0 : Int32)).toNatClampNeg) := inb_of Sz34 ⟨by decide, by decide⟩
          refine Goes.step (B := T27.setTop (mkF m 25 #[.val (.ref b1), .val (.int p1), .val (.int 3), .val (.int 0)] [(.int x0)])) (X27.baloadBytes hx (j := (0 : Int32)) (v := (.int x0)) (by rw [eh27]; exact Ar34.1) (State.isArrayOf_alike hZ.alike Ar34.2.1) Ar34.2.2 hin34 (Has.at Hs34 hin34 rfl) (g := (mkF m 24 #[.val (.ref b1), .val (.int p1), .val (.int 3), .val (.int 0)] [(.int 0), (.ref b1)])) rfl rfl (hb hby d14_24)) ?_
          refine Goes.step (fun _ k => pw_iloadN X27.here hx (hb hby d14_25) rfl _ k) ?_
          refine Goes.step (B := T27.setTop (mkF m 27 #[.val (.ref b1), .val (.int p1), .val (.int 3), .val (.int 0)] [(.int (p1.toInt8.toInt32)), (.int x0)])) (fun _ k => XS.i2b X27.here hx rfl (hb hby d14_26) rfl k) ?_
          by_cases hc27_34 : x0 = (p1.toInt8.toInt32)
          · refine Goes.step (fun _ k => pw_icmpNo X27.here hx (hb hby d14_27) (teq hc27_34).2 _ (pw_iloadN X27.here hx (hb hby d14_30) rfl _ k)) ?_
            exact Goes.retI X27 hx eh27 Bd.returns hlk (hb hby d14_31) (by decide) (by decide) (⟨(by rw [show own_lix p1 [x0, x1, x2, x3] = own_li4 p1 x0 x1 x2 x3 from rfl, own_li4, if_neg hc27_28, own_li3, if_neg hc27_30, own_li2, if_neg hc27_32, own_li1, if_pos hc27_34]; try rfl), N27, rfl⟩)
          · refine Goes.step (fun _ k => pw_icmpYes X27.here hx (pc' := 32) (hb hby d14_27) (feq hc27_34).2 (by decide) (by decide) _ (pw_iinc X27.here hx (l' := #[.val (.ref b1), .val (.int p1), .val (.int 3), .val (.int (-1))]) (hb hby d14_32) rfl rfl _ (pw_goto X27.here hx (pc' := 18) (hb hby d14_35) (by decide) (by decide) _ (pw_iloadN X27.here hx (hb hby d14_18) rfl _ (pw_ifYes X27.here hx (pc' := 38) (hb hby d14_19) ((if0 _ _).trans (tlt (by decide)).1) (by decide) (by decide) _ (pw_iconst X27.here hx (v := (-1 : Int32)) (hb hby d14_38) rfl _ k)))))) ?_
            exact Goes.retI X27 hx eh27 Bd.returns hlk (hb hby d14_39) (by decide) (by decide) (⟨(by rw [show own_lix p1 [x0, x1, x2, x3] = own_li4 p1 x0 x1 x2 x3 from rfl, own_li4, if_neg hc27_28, own_li3, if_neg hc27_30, own_li2, if_neg hc27_32, own_li1, if_neg hc27_34]; try rfl), N27, rfl⟩)
  · obtain rfl : p2 = (4 : Int32) := hp2.trans (by decide)
    refine Goes.step (fun _ k => pw_iloadN X0.here hx (hb hby d14_0) rfl _ k) ?_
    obtain ⟨_, _, ⟨T36, qL36, qk36, qn36⟩, -, X36, ⟨Lc36, hQ36, ql36, qy36, qz36⟩, st36⟩ := Jvm.LawKit.callS X0 hx (y := (⟨"java/lang/StringLatin1", "canEncode", "(I)Z"⟩ : MethodName)) hown (mvT hZ (own_w67 hw)) (mvT hZ (own_w68 hw)) (mvT hZ (own_w65 hw)) (mvT hZ (own_w69 hw)) (by decide) (backOf (W := 0) (rm15 l Z a0 hw [] p1 h0 n0 O0 hp0 hp1) hZ (own_w69 hw) (own_w65 hw) (by decide) (by decide)) (g := (mkF m 1 #[.val (.ref b1), .val (.int p1), .val (.int 4), .unset] [(.int p1)])) rfl (by rw [hml]; rfl) (argsL := [(.int p1)]) (rest := []) (lenOf pd_17 rfl) rfl (by show 2 * 0 + _ ≤ _; exact Nat.le_of_eq rfl) (hb hby d14_1) (fun _ _ => ⟨rfl, e0, (by decide : 0 + 0 ≤ _), (by decide : 0 + 0 ≤ _)⟩)
    dsimp only [Pt.U, Pt.locs, Pt.cells, Pt.slots] at X36 ql36 qy36 qz36 st36 hQ36
    rw [ql36, qy36, qz36] at X36
    obtain ⟨rfl, Nq36, eh36⟩ := hQ36
    have N36 := Fr.app N0 Nq36
    refine Goes.step (B := T36.setTop (mkF m 4 #[.val (.ref b1), .val (.int p1), .val (.int 4), .unset] [(.int 1)])) st36 ?_
    refine Goes.step (fun _ k => pw_ifYes X36.here hx (pc' := 9) (hb hby d14_4) ((if0 _ _).trans (feq (by decide)).2) (by decide) (by decide) _ (pw_iloadN X36.here hx (hb hby d14_9) rfl _ (pw_aloadN X36.here hx (hb hby d14_10) rfl rfl _ k))) ?_
    obtain ⟨c37, Ar37, -, Sz37, Nn37, -, -⟩ := id V1
    have len37 := X36.arraylength hx (by rw [eh36]; exact Ar37.1) (State.isArrayOf_alike hZ.alike Ar37.2.1) (g := (mkF m 11 #[.val (.ref b1), .val (.int p1), .val (.int 4), .unset] [(.ref b1), (.int 4)])) rfl rfl (hb hby d14_11)
    rw [len_of Sz37 Nn37] at len37
    refine Goes.step (B := T36.setTop (mkF m 12 #[.val (.ref b1), .val (.int p1), .val (.int 4), .unset] [(.int 5), (.int 4)])) len37 ?_
    refine Goes.step (fun _ k => pw_iconst X36.here hx (v := (1 : Int32)) (hb hby d14_12) rfl _ k) ?_
    refine Goes.step (B := T36.setTop (mkF m 14 #[.val (.ref b1), .val (.int p1), .val (.int 4), .unset] [(.int 4), (.int 4)])) (fun _ k => XS.isub X36.here hx rfl (hb hby d14_13) rfl k) ?_
    obtain ⟨_, _, ⟨T38, qL38, qk38, qn38⟩, -, X38, ⟨Lc38, hQ38, ql38, qy38, qz38⟩, st38⟩ := Jvm.LawKit.callS X36 hx (y := (⟨"java/lang/Math", "min", "(II)I"⟩ : MethodName)) hown (mvT hZ (own_w70 hw)) (mvT hZ (own_w71 hw)) (mvT hZ (own_w72 hw)) (mvT hZ (own_w73 hw)) (by decide) (backOf (W := 0) (rm16 l Z a0 hw [] (4 : Int32) (4 : Int32) h0 n0 O0 ) hZ (own_w73 hw) (own_w72 hw) (by decide) (by decide)) (g := (mkF m 14 #[.val (.ref b1), .val (.int p1), .val (.int 4), .unset] [(.int 4), (.int 4)])) rfl (by rw [hml]; rfl) (argsL := [(.int 4), (.int 4)]) (rest := []) (lenOf pd_10 rfl) rfl (by show 2 * 0 + _ ≤ _; exact Nat.le_of_eq rfl) (hb hby d14_14) (fun _ _ => ⟨rfl, eh36, (by decide : 0 + 0 ≤ _), (by decide : 0 + 0 ≤ _)⟩)
    dsimp only [Pt.U, Pt.locs, Pt.cells, Pt.slots] at X38 ql38 qy38 qz38 st38 hQ38
    rw [ql38, qy38, qz38] at X38
    obtain ⟨rfl, Nq38, eh38⟩ := hQ38
    have N38 := Fr.app N36 Nq38
    refine Goes.step (B := T38.setTop (mkF m 17 #[.val (.ref b1), .val (.int p1), .val (.int 4), .unset] [(.int (own_min (4 : Int32) (4 : Int32)))])) st38 ?_
    rw [(own_mnq (Int.le_refl _) : (own_min (4 : Int32) (4 : Int32)) = (4 : Int32))]
    refine Goes.step (fun _ k => pw_istoreN X38.here hx (l' := #[.val (.ref b1), .val (.int p1), .val (.int 4), .val (.int 4)]) (hb hby d14_17) rfl _ (pw_iloadN X38.here hx (hb hby d14_18) rfl _ (pw_ifNo X38.here hx (hb hby d14_19) ((if0 _ _).trans (flt (by decide)).1) _ (pw_aloadN X38.here hx (hb hby d14_22) rfl rfl _ (pw_iloadN X38.here hx (hb hby d14_23) rfl _ k))))) ?_
    obtain ⟨c39, Ar39, -, Sz39, Nn39, Hs39, -⟩ := id V1
    have hin39 : ¬ ((4 : Int32) < 0 ∨ c39.slots.size ≤ ((4 : Int32)).toNatClampNeg) := inb_of Sz39 ⟨by decide, by decide⟩
    refine Goes.step (B := T38.setTop (mkF m 25 #[.val (.ref b1), .val (.int p1), .val (.int 4), .val (.int 4)] [(.int x4)])) (X38.baloadBytes hx (j := (4 : Int32)) (v := (.int x4)) (by rw [eh38]; exact Ar39.1) (State.isArrayOf_alike hZ.alike Ar39.2.1) Ar39.2.2 hin39 (Has.at Hs39 hin39 rfl) (g := (mkF m 24 #[.val (.ref b1), .val (.int p1), .val (.int 4), .val (.int 4)] [(.int 4), (.ref b1)])) rfl rfl (hb hby d14_24)) ?_
    refine Goes.step (fun _ k => pw_iloadN X38.here hx (hb hby d14_25) rfl _ k) ?_
    refine Goes.step (B := T38.setTop (mkF m 27 #[.val (.ref b1), .val (.int p1), .val (.int 4), .val (.int 4)] [(.int (p1.toInt8.toInt32)), (.int x4)])) (fun _ k => XS.i2b X38.here hx rfl (hb hby d14_26) rfl k) ?_
    by_cases hc27_39 : x4 = (p1.toInt8.toInt32)
    · refine Goes.step (fun _ k => pw_icmpNo X38.here hx (hb hby d14_27) (teq hc27_39).2 _ (pw_iloadN X38.here hx (hb hby d14_30) rfl _ k)) ?_
      exact Goes.retI X38 hx eh38 Bd.returns hlk (hb hby d14_31) (by decide) (by decide) (⟨(by rw [show own_lix p1 [x0, x1, x2, x3, x4] = own_li5 p1 x0 x1 x2 x3 x4 from rfl, own_li5, if_pos hc27_39]; try rfl), N38, rfl⟩)
    · refine Goes.step (fun _ k => pw_icmpYes X38.here hx (pc' := 32) (hb hby d14_27) (feq hc27_39).2 (by decide) (by decide) _ (pw_iinc X38.here hx (l' := #[.val (.ref b1), .val (.int p1), .val (.int 4), .val (.int 3)]) (hb hby d14_32) rfl rfl _ (pw_goto X38.here hx (pc' := 18) (hb hby d14_35) (by decide) (by decide) _ (pw_iloadN X38.here hx (hb hby d14_18) rfl _ (pw_ifNo X38.here hx (hb hby d14_19) ((if0 _ _).trans (flt (by decide)).1) _ (pw_aloadN X38.here hx (hb hby d14_22) rfl rfl _ k)))))) ?_
      refine Goes.step (fun _ k => pw_iloadN X38.here hx (hb hby d14_23) rfl _ k) ?_
      obtain ⟨c41, Ar41, -, Sz41, Nn41, Hs41, -⟩ := id V1
      have hin41 : ¬ ((3 : Int32) < 0 ∨ c41.slots.size ≤ ((3 : Int32)).toNatClampNeg) := inb_of Sz41 ⟨by decide, by decide⟩
      refine Goes.step (B := T38.setTop (mkF m 25 #[.val (.ref b1), .val (.int p1), .val (.int 4), .val (.int 3)] [(.int x3)])) (X38.baloadBytes hx (j := (3 : Int32)) (v := (.int x3)) (by rw [eh38]; exact Ar41.1) (State.isArrayOf_alike hZ.alike Ar41.2.1) Ar41.2.2 hin41 (Has.at Hs41 hin41 rfl) (g := (mkF m 24 #[.val (.ref b1), .val (.int p1), .val (.int 4), .val (.int 3)] [(.int 3), (.ref b1)])) rfl rfl (hb hby d14_24)) ?_
      refine Goes.step (fun _ k => pw_iloadN X38.here hx (hb hby d14_25) rfl _ k) ?_
      refine Goes.step (B := T38.setTop (mkF m 27 #[.val (.ref b1), .val (.int p1), .val (.int 4), .val (.int 3)] [(.int (p1.toInt8.toInt32)), (.int x3)])) (fun _ k => XS.i2b X38.here hx rfl (hb hby d14_26) rfl k) ?_
      by_cases hc27_41 : x3 = (p1.toInt8.toInt32)
      · refine Goes.step (fun _ k => pw_icmpNo X38.here hx (hb hby d14_27) (teq hc27_41).2 _ (pw_iloadN X38.here hx (hb hby d14_30) rfl _ k)) ?_
        exact Goes.retI X38 hx eh38 Bd.returns hlk (hb hby d14_31) (by decide) (by decide) (⟨(by rw [show own_lix p1 [x0, x1, x2, x3, x4] = own_li5 p1 x0 x1 x2 x3 x4 from rfl, own_li5, if_neg hc27_39, own_li4, if_pos hc27_41]; try rfl), N38, rfl⟩)
      · refine Goes.step (fun _ k => pw_icmpYes X38.here hx (pc' := 32) (hb hby d14_27) (feq hc27_41).2 (by decide) (by decide) _ (pw_iinc X38.here hx (l' := #[.val (.ref b1), .val (.int p1), .val (.int 4), .val (.int 2)]) (hb hby d14_32) rfl rfl _ (pw_goto X38.here hx (pc' := 18) (hb hby d14_35) (by decide) (by decide) _ (pw_iloadN X38.here hx (hb hby d14_18) rfl _ (pw_ifNo X38.here hx (hb hby d14_19) ((if0 _ _).trans (flt (by decide)).1) _ (pw_aloadN X38.here hx (hb hby d14_22) rfl rfl _ k)))))) ?_
        refine Goes.step (fun _ k => pw_iloadN X38.here hx (hb hby d14_23) rfl _ k) ?_
        obtain ⟨c43, Ar43, -, Sz43, Nn43, Hs43, -⟩ := id V1
        have hin43 : ¬ ((2 : Int32) < 0 ∨ c43.slots.size ≤ ((2 : Int32)).toNatClampNeg) := inb_of Sz43 ⟨by decide, by decide⟩
        refine Goes.step (B := T38.setTop (mkF m 25 #[.val (.ref b1), .val (.int p1), .val (.int 4), .val (.int 2)] [(.int x2)])) (X38.baloadBytes hx (j := (2 : Int32)) (v := (.int x2)) (by rw [eh38]; exact Ar43.1) (State.isArrayOf_alike hZ.alike Ar43.2.1) Ar43.2.2 hin43 (Has.at Hs43 hin43 rfl) (g := (mkF m 24 #[.val (.ref b1), .val (.int p1), .val (.int 4), .val (.int 2)] [(.int 2), (.ref b1)])) rfl rfl (hb hby d14_24)) ?_
        refine Goes.step (fun _ k => pw_iloadN X38.here hx (hb hby d14_25) rfl _ k) ?_
        refine Goes.step (B := T38.setTop (mkF m 27 #[.val (.ref b1), .val (.int p1), .val (.int 4), .val (.int 2)] [(.int (p1.toInt8.toInt32)), (.int x2)])) (fun _ k => XS.i2b X38.here hx rfl (hb hby d14_26) rfl k) ?_
        by_cases hc27_43 : x2 = (p1.toInt8.toInt32)
        · refine Goes.step (fun _ k => pw_icmpNo X38.here hx (hb hby d14_27) (teq hc27_43).2 _ (pw_iloadN X38.here hx (hb hby d14_30) rfl _ k)) ?_
          exact Goes.retI X38 hx eh38 Bd.returns hlk (hb hby d14_31) (by decide) (by decide) (⟨(by rw [show own_lix p1 [x0, x1, x2, x3, x4] = own_li5 p1 x0 x1 x2 x3 x4 from rfl, own_li5, if_neg hc27_39, own_li4, if_neg hc27_41, own_li3, if_pos hc27_43]; try rfl), N38, rfl⟩)
        · refine Goes.step (fun _ k => pw_icmpYes X38.here hx (pc' := 32) (hb hby d14_27) (feq hc27_43).2 (by decide) (by decide) _ (pw_iinc X38.here hx (l' := #[.val (.ref b1), .val (.int p1), .val (.int 4), .val (.int 1)]) (hb hby d14_32) rfl rfl _ (pw_goto X38.here hx (pc' := 18) (hb hby d14_35) (by decide) (by decide) _ (pw_iloadN X38.here hx (hb hby d14_18) rfl _ (pw_ifNo X38.here hx (hb hby d14_19) ((if0 _ _).trans (flt (by decide)).1) _ (pw_aloadN X38.here hx (hb hby d14_22) rfl rfl _ k)))))) ?_
          refine Goes.step (fun _ k => pw_iloadN X38.here hx (hb hby d14_23) rfl _ k) ?_
          obtain ⟨c45, Ar45, -, Sz45, Nn45, Hs45, -⟩ := id V1
          have hin45 : ¬ ((1 : Int32) < 0 ∨ c45.slots.size ≤ ((1 : Int32)).toNatClampNeg) := inb_of Sz45 ⟨by decide, by decide⟩
          refine Goes.step (B := T38.setTop (mkF m 25 #[.val (.ref b1), .val (.int p1), .val (.int 4), .val (.int 1)] [(.int x1)])) (X38.baloadBytes hx (j := (1 : Int32)) (v := (.int x1)) (by rw [eh38]; exact Ar45.1) (State.isArrayOf_alike hZ.alike Ar45.2.1) Ar45.2.2 hin45 (Has.at Hs45 hin45 rfl) (g := (mkF m 24 #[.val (.ref b1), .val (.int p1), .val (.int 4), .val (.int 1)] [(.int 1), (.ref b1)])) rfl rfl (hb hby d14_24)) ?_
          refine Goes.step (fun _ k => pw_iloadN X38.here hx (hb hby d14_25) rfl _ k) ?_
          refine Goes.step (B := T38.setTop (mkF m 27 #[.val (.ref b1), .val (.int p1), .val (.int 4), .val (.int 1)] [(.int (p1.toInt8.toInt32)), (.int x1)])) (fun _ k => XS.i2b X38.here hx rfl (hb hby d14_26) rfl k) ?_
          by_cases hc27_45 : x1 = (p1.toInt8.toInt32)
          · refine Goes.step (fun _ k => pw_icmpNo X38.here hx (hb hby d14_27) (teq hc27_45).2 _ (pw_iloadN X38.here hx (hb hby d14_30) rfl _ k)) ?_
            exact Goes.retI X38 hx eh38 Bd.returns hlk (hb hby d14_31) (by decide) (by decide) (⟨(by rw [show own_lix p1 [x0, x1, x2, x3, x4] = own_li5 p1 x0 x1 x2 x3 x4 from rfl, own_li5, if_neg hc27_39, own_li4, if_neg hc27_41, own_li3, if_neg hc27_43, own_li2, if_pos hc27_45]; try rfl), N38, rfl⟩)
          · refine Goes.step (fun _ k => pw_icmpYes X38.here hx (pc' := 32) (hb hby d14_27) (feq hc27_45).2 (by decide) (by decide) _ (pw_iinc X38.here hx (l' := #[.val (.ref b1), .val (.int p1), .val (.int 4), .val (.int 0)]) (hb hby d14_32) rfl rfl _ (pw_goto X38.here hx (pc' := 18) (hb hby d14_35) (by decide) (by decide) _ (pw_iloadN X38.here hx (hb hby d14_18) rfl _ (pw_ifNo X38.here hx (hb hby d14_19) ((if0 _ _).trans (flt (by decide)).1) _ (pw_aloadN X38.here hx (hb hby d14_22) rfl rfl _ k)))))) ?_
            refine Goes.step (fun _ k => pw_iloadN X38.here hx (hb hby d14_23) rfl _ k) ?_
            obtain ⟨c47, Ar47, -, Sz47, Nn47, Hs47, -⟩ := id V1
            have hin47 : ¬ ((0 : Int32) < 0 ∨ c47.slots.size ≤ ((0 : Int32)).toNatClampNeg) := inb_of Sz47 ⟨by decide, by decide⟩
            refine Goes.step (B := T38.setTop (mkF m 25 #[.val (.ref b1), .val (.int p1), .val (.int 4), .val (.int 0)] [(.int x0)])) (X38.baloadBytes hx (j := (0 : Int32)) (v := (.int x0)) (by rw [eh38]; exact Ar47.1) (State.isArrayOf_alike hZ.alike Ar47.2.1) Ar47.2.2 hin47 (Has.at Hs47 hin47 rfl) (g := (mkF m 24 #[.val (.ref b1), .val (.int p1), .val (.int 4), .val (.int 0)] [(.int 0), (.ref b1)])) rfl rfl (hb hby d14_24)) ?_
            refine Goes.step (fun _ k => pw_iloadN X38.here hx (hb hby d14_25) rfl _ k) ?_
            refine Goes.step (B := T38.setTop (mkF m 27 #[.val (.ref b1), .val (.int p1), .val (.int 4), .val (.int 0)] [(.int (p1.toInt8.toInt32)), (.int x0)])) (fun _ k => XS.i2b X38.here hx rfl (hb hby d14_26) rfl k) ?_
            by_cases hc27_47 : x0 = (p1.toInt8.toInt32)
            · refine Goes.step (fun _ k => pw_icmpNo X38.here hx (hb hby d14_27) (teq hc27_47).2 _ (pw_iloadN X38.here hx (hb hby d14_30) rfl _ k)) ?_
              exact Goes.retI X38 hx eh38 Bd.returns hlk (hb hby d14_31) (by decide) (by decide) (⟨(by rw [show own_lix p1 [x0, x1, x2, x3, x4] = own_li5 p1 x0 x1 x2 x3 x4 from rfl, own_li5, if_neg hc27_39, own_li4, if_neg hc27_41, own_li3, if_neg hc27_43, own_li2, if_neg hc27_45, own_li1, if_pos hc27_47]; try rfl), N38, rfl⟩)
            · refine Goes.step (fun _ k => pw_icmpYes X38.here hx (pc' := 32) (hb hby d14_27) (feq hc27_47).2 (by decide) (by decide) _ (pw_iinc X38.here hx (l' := #[.val (.ref b1), .val (.int p1), .val (.int 4), .val (.int (-1))]) (hb hby d14_32) rfl rfl _ (pw_goto X38.here hx (pc' := 18) (hb hby d14_35) (by decide) (by decide) _ (pw_iloadN X38.here hx (hb hby d14_18) rfl _ (pw_ifYes X38.here hx (pc' := 38) (hb hby d14_19) ((if0 _ _).trans (tlt (by decide)).1) (by decide) (by decide) _ (pw_iconst X38.here hx (v := (-1 : Int32)) (hb hby d14_38) rfl _ k)))))) ?_
              exact Goes.retI X38 hx eh38 Bd.returns hlk (hb hby d14_39) (by decide) (by decide) (⟨(by rw [show own_lix p1 [x0, x1, x2, x3, x4] = own_li5 p1 x0 x1 x2 x3 x4 from rfl, own_li5, if_neg hc27_39, own_li4, if_neg hc27_41, own_li3, if_neg hc27_43, own_li2, if_neg hc27_45, own_li1, if_neg hc27_47]; try rfl), N38, rfl⟩)
theorem d12_0 : decode jdk_42_method_83_code 0 = .ok (.aload_n 0, 1) := by decide +kernel
theorem d12_1 : decode jdk_42_method_83_code 1 = .ok (.invokevirtual 492, 3) := by decide +kernel
theorem d12_4 : decode jdk_42_method_83_code 4 = .ok (.ifCond .eq 15, 3) := by decide +kernel
theorem d12_7 : decode jdk_42_method_83_code 7 = .ok (.aload_n 0, 1) := by decide +kernel
theorem d12_8 : decode jdk_42_method_83_code 8 = .ok (.getfield 9, 3) := by decide +kernel
theorem d12_11 : decode jdk_42_method_83_code 11 = .ok (.iload_n 1, 1) := by decide +kernel
theorem d12_12 : decode jdk_42_method_83_code 12 = .ok (.iload_n 2, 1) := by decide +kernel
theorem d12_13 : decode jdk_42_method_83_code 13 = .ok (.invokestatic 644, 3) := by decide +kernel
theorem own_w63 {Z : State} {a0 : Array Value} (hw : ∀ d ∈ tables_1, d.before a0 Z = true) : (Jvm.Cond.methodLink "java/lang/String" (644 : Nat) ({ cls := "java/lang/StringLatin1", name := "lastIndexOf", desc := "([BII)I" } : Jvm.MethodName)).before a0 Z = true := hw _ (List.mem_of_getElem? (i := 63) rfl)
theorem own_w66 {Z : State} {a0 : Array Value} (hw : ∀ d ∈ tables_1, d.before a0 Z = true) : (Jvm.Cond.code ({ cls := "java/lang/StringLatin1", name := "lastIndexOf", desc := "([BII)I" } : Jvm.MethodName) jdk_43_method_27_code (4 : Nat) (Option.some Jvm.ClassFile.FieldType.int)).before a0 Z = true := hw _ (List.mem_of_getElem? (i := 66) rfl)
theorem pd_18 : parseMethodDescriptor "([BII)I" = some ⟨[(.array .byte), .int, .int], some .int⟩ := by decide +kernel
theorem own_w64 {Z : State} {a0 : Array Value} (hw : ∀ d ∈ tables_1, d.before a0 Z = true) : (Jvm.Cond.static ({ cls := "java/lang/StringLatin1", name := "lastIndexOf", desc := "([BII)I" } : Jvm.MethodName)).before a0 Z = true := hw _ (List.mem_of_getElem? (i := 64) rfl)
theorem d12_16 : decode jdk_42_method_83_code 16 = .ok (.goto 12, 3) := by decide +kernel
theorem d12_28 : decode jdk_42_method_83_code 28 = .ok (.ireturn, 1) := by decide +kernel
theorem ef_rmLJ (m : MethodId) (x0 : Addr) (x1 : Int32) (x2 : Int32) : entryFrame m #[(.ref x0), (.int x1), (.int x2)] 3 = mkF m 0 #[.val (.ref x0), .val (.int x1), .val (.int x2)] [] := by first | (simp [entryFrame, mkF, argsToLocals, Value.category]; done) | rfl
def QLJ (Z : State) (a1 : Addr) (b1 : Addr) (k1 : ClassId) (z1 : Int32) (xs : List Int32) (cs : Int32) (p1 : Int32) (p2 : Int32) (h0 : Heap) (n0 : Nat) (v : Option Value) (h : Heap) (L : List Loc) : Prop := v = some (.int (own_lix p1 xs)) ∧ Fr n0 L ∧ h = h0
set_option maxRecDepth 65536 in
set_option maxHeartbeats 40000000 in
theorem rmLJ (l : Launch) (Z : State) (a0 : Array Value) (hw : ∀ d ∈ tables_1, d.before a0 Z = true) (ws : List Jvm.Cond) (a1 : Addr) (b1 : Addr) (k1 : ClassId) (z1 : Int32) (xs : List Int32) (cs : Int32) (p1 : Int32) (p2 : Int32) (h0 : Heap) (n0 : Nat) (O0 : Old Z n0 h0) (Sc : Sta Z h0 "java/lang/String" "COMPACT_STRINGS" "Z" (.int cs)) (hcs : ¬ cs = (0 : Int32)) (E1 : Exa Z h0 a1 "java/lang/String") (Fc1 : Fld Z h0 a1 "java/lang/String" "coder" "B" (.int (0 : Int32))) (Fv1 : Fld Z h0 a1 "java/lang/String" "value" "[B" (.ref b1)) (V1 : Arv Z h0 b1 k1 .byte z1 (xs.map Value.int) (.int (0 : Int32))) (hzl : z1.toNatClampNeg = xs.length) (hz5 : z1.toInt ≤ 5) (hp2 : p2 = z1 - 1) (hp0 : ¬ p1 < (0 : Int32)) (hp1 : ¬ (255 : Int32) < p1) :
    MetFree l (⟨"java/lang/String", "lastIndexOf", "(II)I"⟩ : MethodName) (head1 (Jvm.Cond.code (⟨"java/lang/String", "lastIndexOf", "(II)I"⟩ : MethodName) jdk_42_method_83_code 3 (some .int) :: ws) ({ frames := 2, cells := 0, slots := 0, locals := 28 } : Room)) (fun a U => a = #[(.ref a1), (.int p1), (.int p2)] ∧ Z.Warmed39 U.vm ∧ U.heap = h0) (fun _ _ _ _ _ => True) (fun _ U o U' => ∃ v L, o = .returned v ∧ QLJ Z a1 b1 k1 z1 xs cs p1 p2 h0 n0 v U'.heap L ∧ FrameEnd U o U' L ({ frames := 2, cells := 0, slots := 0, locals := 28 } : Room).cells ({ frames := 2, cells := 0, slots := 0, locals := 28 } : Room).slots) := by
  refine MetFree.of_bodySF (plainFor_of_name pn_String) hisR ?_
  intro p e s m args below meth c s₁ Bd hml0 hP hK
  obtain ⟨rfl, hZ, hh⟩ := hP
  have hx := Bd.exec
  have hby := Bd.bytes
  have hlk : meth.locks = false := BodyLoose.notSynchronized Bd
  have hml : c.maxLocals = 3 := hml0
  have hown : s.vm.findClass "java/lang/String" = some m.cls := findClass_of_methodNamed Bd.named
  have hnm := (name_of_methodNamed Bd.named Bd.method).1
  have X0 : Stand p l e ({ frames := 2, cells := 0, slots := 0, locals := 28 } : Room) s m #[(.ref a1), (.int p1), (.int p2)] below meth c s₁ [] 0 0 := Stand.of_body Bd
  have e0 : s₁.heap = h0 := by rw [← hh, Bd.state]; rfl
  have N0 := Fr.nil n0
  show Goes p e below s (QLJ Z a1 b1 k1 z1 xs cs p1 p2 h0 n0) ({ frames := 2, cells := 0, slots := 0, locals := 28 } : Room).cells ({ frames := 2, cells := 0, slots := 0, locals := 28 } : Room).slots (s₁.setTop (entryFrame m #[(.ref a1), (.int p1), (.int p2)] 3))
  refine Goes.enter (g' := (mkF m 0 #[.val (.ref a1), .val (.int p1), .val (.int p2)] [])) (ef_rmLJ m a1 p1 p2) ?_
  refine Goes.step (fun _ k => pw_aloadN X0.here hx (hb hby d12_0) rfl rfl _ k) ?_
  obtain ⟨cq1, kq1, qa1, qb1, qc1⟩ := isOf hZ e0 E1
  obtain ⟨_, _, ⟨T1, qL1, qk1, qn1⟩, -, X1, ⟨Lc1, hQ1, ql1, qy1, qz1⟩, st1⟩ := X0.virtualBack hx (y := (⟨"java/lang/String", "isLatin1", "()Z"⟩ : MethodName)) (z := (⟨"java/lang/String", "isLatin1", "()Z"⟩ : MethodName)) hown (mvT hZ (own_w58 hw)) (mvT hZ (own_w59 hw)) (notFace_of_selects (args := #[]) (mvT hZ (own_w61 hw))) (mvT hZ (own_w61 hw)) (mvT hZ (own_w60 hw)) (by decide) (backOf (W := 0) (rm13 l Z a0 hw [] a1 b1 k1 z1 xs cs h0 n0 O0 Sc hcs E1 Fc1 Fv1 V1) hZ (own_w62 hw) (own_w7 hw) (by decide) (by decide)) qa1 qc1 (g := (mkF m 1 #[.val (.ref a1), .val (.int p1), .val (.int p2)] [(.ref a1)])) rfl (by rw [hml]; rfl) (Steps.refl _) (argsL := []) (rest := []) (lenOf pd_7 rfl) rfl (by show 2 * 0 + _ ≤ _; exact Nat.le_of_eq rfl) (hb hby d12_1) (fun _ _ => ⟨rfl, e0, (by decide : 0 + 0 ≤ _), (by decide : 0 + 0 ≤ _)⟩)
  dsimp only [Pt.U, Pt.locs, Pt.cells, Pt.slots] at X1 ql1 qy1 qz1 st1 hQ1
  rw [ql1, qy1, qz1] at X1
  obtain ⟨rfl, Nq1, eh1⟩ := hQ1
  have N1 := Fr.app N0 Nq1
  refine Goes.via (B := T1.setTop (mkF m 4 #[.val (.ref a1), .val (.int p1), .val (.int p2)] [(.int 1)])) st1 ?_
  refine Goes.step (fun _ k => pw_ifNo X1.here hx (hb hby d12_4) ((if0 _ _).trans (feq (by decide)).1) _ (pw_aloadN X1.here hx (hb hby d12_7) rfl rfl _ k)) ?_
  obtain ⟨T2, X2, e2, st2⟩ := getF X1 hx hZ hown (host := "") (Or.inl (own_w32 hw)) Via.refl eh1 Fv1 (g := (mkF m 8 #[.val (.ref a1), .val (.int p1), .val (.int p2)] [(.ref a1)])) rfl rfl (hb hby d12_8)
  refine Goes.step (B := T2.setTop (mkF m 11 #[.val (.ref a1), .val (.int p1), .val (.int p2)] [(.ref b1)])) st2 ?_
  refine Goes.step (fun _ k => pw_iloadN X2.here hx (hb hby d12_11) rfl _ (pw_iloadN X2.here hx (hb hby d12_12) rfl _ k)) ?_
  obtain ⟨_, _, ⟨T3, qL3, qk3, qn3⟩, -, X3, ⟨Lc3, hQ3, ql3, qy3, qz3⟩, st3⟩ := Jvm.LawKit.callS X2 hx (y := (⟨"java/lang/StringLatin1", "lastIndexOf", "([BII)I"⟩ : MethodName)) hown (mvT hZ (own_w63 hw)) (mvT hZ (own_w64 hw)) (mvT hZ (own_w65 hw)) (mvT hZ (own_w66 hw)) (by decide) (backOf (W := 0) (rmLI l Z a0 hw [] b1 k1 z1 xs p1 p2 h0 n0 O0 V1 hzl hz5 hp2 hp0 hp1) hZ (own_w66 hw) (own_w65 hw) (by decide) (by decide)) (g := (mkF m 13 #[.val (.ref a1), .val (.int p1), .val (.int p2)] [(.int p2), (.int p1), (.ref b1)])) rfl (by rw [hml]; rfl) (argsL := [(.ref b1), (.int p1), (.int p2)]) (rest := []) (lenOf pd_18 rfl) rfl (by show 2 * 0 + _ ≤ _; exact Nat.le_of_eq rfl) (hb hby d12_13) (fun _ _ => ⟨rfl, e2, (by decide : 0 + 0 ≤ _), (by decide : 0 + 0 ≤ _)⟩)
  dsimp only [Pt.U, Pt.locs, Pt.cells, Pt.slots] at X3 ql3 qy3 qz3 st3 hQ3
  rw [ql3, qy3, qz3] at X3
  obtain ⟨rfl, Nq3, eh3⟩ := hQ3
  have N3 := Fr.app N1 Nq3
  refine Goes.step (B := T3.setTop (mkF m 16 #[.val (.ref a1), .val (.int p1), .val (.int p2)] [(.int (own_lix p1 xs))])) st3 ?_
  refine Goes.step (fun _ k => pw_goto X3.here hx (pc' := 28) (hb hby d12_16) (by decide) (by decide) _ k) ?_
  exact Goes.retI X3 hx eh3 Bd.returns hlk (hb hby d12_28) (by decide) (by decide) (⟨rfl, N3, rfl⟩)
theorem d9_0 : decode jdk_42_method_82_code 0 = .ok (.aload_n 0, 1) := by decide +kernel
theorem d9_1 : decode jdk_42_method_82_code 1 = .ok (.iload_n 1, 1) := by decide +kernel
theorem d9_2 : decode jdk_42_method_82_code 2 = .ok (.aload_n 0, 1) := by decide +kernel
theorem d9_3 : decode jdk_42_method_82_code 3 = .ok (.invokevirtual 505, 3) := by decide +kernel
theorem d9_6 : decode jdk_42_method_82_code 6 = .ok (.iconst 1, 1) := by decide +kernel
theorem d9_7 : decode jdk_42_method_82_code 7 = .ok (.isub, 1) := by decide +kernel
theorem d9_8 : decode jdk_42_method_82_code 8 = .ok (.invokevirtual 641, 3) := by decide +kernel
theorem own_w53 {Z : State} {a0 : Array Value} (hw : ∀ d ∈ tables_1, d.before a0 Z = true) : (Jvm.Cond.methodLink "java/lang/String" (641 : Nat) ({ cls := "java/lang/String", name := "lastIndexOf", desc := "(II)I" } : Jvm.MethodName)).before a0 Z = true := hw _ (List.mem_of_getElem? (i := 53) rfl)
theorem own_w57 {Z : State} {a0 : Array Value} (hw : ∀ d ∈ tables_1, d.before a0 Z = true) : (Jvm.Cond.code ({ cls := "java/lang/String", name := "lastIndexOf", desc := "(II)I" } : Jvm.MethodName) jdk_42_method_83_code (3 : Nat) (Option.some Jvm.ClassFile.FieldType.int)).before a0 Z = true := hw _ (List.mem_of_getElem? (i := 57) rfl)
theorem own_w56 {Z : State} {a0 : Array Value} (hw : ∀ d ∈ tables_1, d.before a0 Z = true) : (Jvm.Cond.selects "java/lang/String" ({ cls := "java/lang/String", name := "lastIndexOf", desc := "(II)I" } : Jvm.MethodName) ({ cls := "java/lang/String", name := "lastIndexOf", desc := "(II)I" } : Jvm.MethodName)).before a0 Z = true := hw _ (List.mem_of_getElem? (i := 56) rfl)
theorem own_w54 {Z : State} {a0 : Array Value} (hw : ∀ d ∈ tables_1, d.before a0 Z = true) : (Jvm.Cond.declares ({ cls := "java/lang/String", name := "lastIndexOf", desc := "(II)I" } : Jvm.MethodName)).before a0 Z = true := hw _ (List.mem_of_getElem? (i := 54) rfl)
theorem own_w55 {Z : State} {a0 : Array Value} (hw : ∀ d ∈ tables_1, d.before a0 Z = true) : (Jvm.Cond.instanceMethod ({ cls := "java/lang/String", name := "lastIndexOf", desc := "(II)I" } : Jvm.MethodName)).before a0 Z = true := hw _ (List.mem_of_getElem? (i := 55) rfl)
theorem d9_11 : decode jdk_42_method_82_code 11 = .ok (.ireturn, 1) := by decide +kernel
theorem ef_rmLK (m : MethodId) (x0 : Addr) (x1 : Int32) : entryFrame m #[(.ref x0), (.int x1)] 2 = mkF m 0 #[.val (.ref x0), .val (.int x1)] [] := by first | (simp [entryFrame, mkF, argsToLocals, Value.category]; done) | rfl
def QLK (Z : State) (a1 : Addr) (b1 : Addr) (k1 : ClassId) (z1 : Int32) (xs : List Int32) (cs : Int32) (p1 : Int32) (h0 : Heap) (n0 : Nat) (v : Option Value) (h : Heap) (L : List Loc) : Prop := v = some (.int (own_lix p1 xs)) ∧ Fr n0 L ∧ h = h0
set_option maxRecDepth 65536 in
set_option maxHeartbeats 40000000 in
theorem rmLK (l : Launch) (Z : State) (a0 : Array Value) (hw : ∀ d ∈ tables_1, d.before a0 Z = true) (ws : List Jvm.Cond) (a1 : Addr) (b1 : Addr) (k1 : ClassId) (z1 : Int32) (xs : List Int32) (cs : Int32) (p1 : Int32) (h0 : Heap) (n0 : Nat) (O0 : Old Z n0 h0) (Sc : Sta Z h0 "java/lang/String" "COMPACT_STRINGS" "Z" (.int cs)) (hcs : ¬ cs = (0 : Int32)) (E1 : Exa Z h0 a1 "java/lang/String") (Fc1 : Fld Z h0 a1 "java/lang/String" "coder" "B" (.int (0 : Int32))) (Fv1 : Fld Z h0 a1 "java/lang/String" "value" "[B" (.ref b1)) (V1 : Arv Z h0 b1 k1 .byte z1 (xs.map Value.int) (.int (0 : Int32))) (hzl : z1.toNatClampNeg = xs.length) (hz5 : z1.toInt ≤ 5) (hp0 : ¬ p1 < (0 : Int32)) (hp1 : ¬ (255 : Int32) < p1) :
    MetFree l (⟨"java/lang/String", "lastIndexOf", "(I)I"⟩ : MethodName) (head1 (Jvm.Cond.code (⟨"java/lang/String", "lastIndexOf", "(I)I"⟩ : MethodName) jdk_42_method_82_code 2 (some .int) :: ws) ({ frames := 3, cells := 0, slots := 0, locals := 42 } : Room)) (fun a U => a = #[(.ref a1), (.int p1)] ∧ Z.Warmed39 U.vm ∧ U.heap = h0) (fun _ _ _ _ _ => True) (fun _ U o U' => ∃ v L, o = .returned v ∧ QLK Z a1 b1 k1 z1 xs cs p1 h0 n0 v U'.heap L ∧ FrameEnd U o U' L ({ frames := 3, cells := 0, slots := 0, locals := 42 } : Room).cells ({ frames := 3, cells := 0, slots := 0, locals := 42 } : Room).slots) := by
  refine MetFree.of_bodySF (plainFor_of_name pn_String) hisR ?_
  intro p e s m args below meth c s₁ Bd hml0 hP hK
  obtain ⟨rfl, hZ, hh⟩ := hP
  have hx := Bd.exec
  have hby := Bd.bytes
  have hlk : meth.locks = false := BodyLoose.notSynchronized Bd
  have hml : c.maxLocals = 2 := hml0
  have hown : s.vm.findClass "java/lang/String" = some m.cls := findClass_of_methodNamed Bd.named
  have hnm := (name_of_methodNamed Bd.named Bd.method).1
  have X0 : Stand p l e ({ frames := 3, cells := 0, slots := 0, locals := 42 } : Room) s m #[(.ref a1), (.int p1)] below meth c s₁ [] 0 0 := Stand.of_body Bd
  have e0 : s₁.heap = h0 := by rw [← hh, Bd.state]; rfl
  have N0 := Fr.nil n0
  show Goes p e below s (QLK Z a1 b1 k1 z1 xs cs p1 h0 n0) ({ frames := 3, cells := 0, slots := 0, locals := 42 } : Room).cells ({ frames := 3, cells := 0, slots := 0, locals := 42 } : Room).slots (s₁.setTop (entryFrame m #[(.ref a1), (.int p1)] 2))
  refine Goes.enter (g' := (mkF m 0 #[.val (.ref a1), .val (.int p1)] [])) (ef_rmLK m a1 p1) ?_
  refine Goes.step (fun _ k => pw_aloadN X0.here hx (hb hby d9_0) rfl rfl _ (pw_iloadN X0.here hx (hb hby d9_1) rfl _ (pw_aloadN X0.here hx (hb hby d9_2) rfl rfl _ k))) ?_
  obtain ⟨cq1, kq1, qa1, qb1, qc1⟩ := isOf hZ e0 E1
  obtain ⟨_, _, ⟨T1, qL1, qk1, qn1⟩, -, X1, ⟨Lc1, hQ1, ql1, qy1, qz1⟩, st1⟩ := X0.virtualBack hx (y := (⟨"java/lang/String", "length", "()I"⟩ : MethodName)) (z := (⟨"java/lang/String", "length", "()I"⟩ : MethodName)) hown (mvT hZ (own_w43 hw)) (mvT hZ (own_w44 hw)) (notFace_of_selects (args := #[]) (mvT hZ (own_w46 hw))) (mvT hZ (own_w46 hw)) (mvT hZ (own_w45 hw)) (by decide) (backOf (W := 2) (rm10 l Z a0 hw [] a1 b1 k1 z1 xs cs h0 n0 O0 Sc hcs E1 Fc1 Fv1 V1) hZ (own_w47 hw) (own_w7 hw) (by decide) (by decide)) qa1 qc1 (g := (mkF m 3 #[.val (.ref a1), .val (.int p1)] [(.ref a1), (.int p1), (.ref a1)])) rfl (by rw [hml]; rfl) (Steps.refl _) (argsL := []) (rest := [(.int p1), (.ref a1)]) (lenOf pd_13 rfl) rfl (by show 2 * 0 + _ ≤ _; exact Nat.le_of_eq rfl) (hb hby d9_3) (fun _ _ => ⟨rfl, e0, (by decide : 0 + 0 ≤ _), (by decide : 0 + 0 ≤ _)⟩)
  dsimp only [Pt.U, Pt.locs, Pt.cells, Pt.slots] at X1 ql1 qy1 qz1 st1 hQ1
  rw [ql1, qy1, qz1] at X1
  obtain ⟨rfl, Nq1, eh1⟩ := hQ1
  have N1 := Fr.app N0 Nq1
  refine Goes.via (B := T1.setTop (mkF m 6 #[.val (.ref a1), .val (.int p1)] [(.int z1), (.int p1), (.ref a1)])) st1 ?_
  refine Goes.step (fun _ k => pw_iconst X1.here hx (v := (1 : Int32)) (hb hby d9_6) rfl _ (pw_isub X1.here hx (hb hby d9_7) _ k)) ?_
  obtain ⟨cq2, kq2, qa2, qb2, qc2⟩ := isOf hZ eh1 E1
  obtain ⟨_, _, ⟨T2, qL2, qk2, qn2⟩, -, X2, ⟨Lc2, hQ2, ql2, qy2, qz2⟩, st2⟩ := X1.virtualBack hx (y := (⟨"java/lang/String", "lastIndexOf", "(II)I"⟩ : MethodName)) (z := (⟨"java/lang/String", "lastIndexOf", "(II)I"⟩ : MethodName)) hown (mvT hZ (own_w53 hw)) (mvT hZ (own_w54 hw)) (notFace_of_selects (args := #[]) (mvT hZ (own_w56 hw))) (mvT hZ (own_w56 hw)) (mvT hZ (own_w55 hw)) (by decide) (backOf (W := 0) (rmLJ l Z a0 hw [] a1 b1 k1 z1 xs cs p1 (z1 - (1 : Int32)) h0 n0 O0 Sc hcs E1 Fc1 Fv1 V1 hzl hz5 rfl hp0 hp1) hZ (own_w57 hw) (own_w7 hw) (by decide) (by decide)) qa2 qc2 (g := (mkF m 8 #[.val (.ref a1), .val (.int p1)] [(.int (z1 - (1 : Int32))), (.int p1), (.ref a1)])) rfl (by rw [hml]; rfl) (Steps.refl _) (argsL := [(.int p1), (.int (z1 - (1 : Int32)))]) (rest := []) (lenOf pd_10 rfl) rfl (by show 2 * 0 + _ ≤ _; exact Nat.le_of_eq rfl) (hb hby d9_8) (fun _ _ => ⟨rfl, eh1, (by decide : 0 + 0 ≤ _), (by decide : 0 + 0 ≤ _)⟩)
  dsimp only [Pt.U, Pt.locs, Pt.cells, Pt.slots] at X2 ql2 qy2 qz2 st2 hQ2
  rw [ql2, qy2, qz2] at X2
  obtain ⟨rfl, Nq2, eh2⟩ := hQ2
  have N2 := Fr.app N1 Nq2
  refine Goes.via (B := T2.setTop (mkF m 11 #[.val (.ref a1), .val (.int p1)] [(.int (own_lix p1 xs))])) st2 ?_
  exact Goes.retI X2 hx eh2 Bd.returns hlk (hb hby d9_11) (by decide) (by decide) (⟨rfl, N2, rfl⟩)
theorem d8_0 : decode prog_7_method_6_code 0 = .ok (.aload_n 0, 1) := by decide +kernel
theorem d8_1 : decode prog_7_method_6_code 1 = .ok (.bipush 47, 2) := by decide +kernel
theorem d8_3 : decode prog_7_method_6_code 3 = .ok (.invokevirtual 30, 3) := by decide +kernel
theorem own_w38 {Z : State} {a0 : Array Value} (hw : ∀ d ∈ tables_1, d.before a0 Z = true) : (Jvm.Cond.methodLink "com/example/partwright/partwright/reader/FormPart" (30 : Nat) ({ cls := "java/lang/String", name := "lastIndexOf", desc := "(I)I" } : Jvm.MethodName)).before a0 Z = true := hw _ (List.mem_of_getElem? (i := 38) rfl)
theorem own_w42 {Z : State} {a0 : Array Value} (hw : ∀ d ∈ tables_1, d.before a0 Z = true) : (Jvm.Cond.code ({ cls := "java/lang/String", name := "lastIndexOf", desc := "(I)I" } : Jvm.MethodName) jdk_42_method_82_code (2 : Nat) (Option.some Jvm.ClassFile.FieldType.int)).before a0 Z = true := hw _ (List.mem_of_getElem? (i := 42) rfl)
theorem pd_19 : parseMethodDescriptor "(I)I" = some ⟨[.int], some .int⟩ := by decide +kernel
theorem own_w41 {Z : State} {a0 : Array Value} (hw : ∀ d ∈ tables_1, d.before a0 Z = true) : (Jvm.Cond.selects "java/lang/String" ({ cls := "java/lang/String", name := "lastIndexOf", desc := "(I)I" } : Jvm.MethodName) ({ cls := "java/lang/String", name := "lastIndexOf", desc := "(I)I" } : Jvm.MethodName)).before a0 Z = true := hw _ (List.mem_of_getElem? (i := 41) rfl)
theorem own_w39 {Z : State} {a0 : Array Value} (hw : ∀ d ∈ tables_1, d.before a0 Z = true) : (Jvm.Cond.declares ({ cls := "java/lang/String", name := "lastIndexOf", desc := "(I)I" } : Jvm.MethodName)).before a0 Z = true := hw _ (List.mem_of_getElem? (i := 39) rfl)
theorem own_w40 {Z : State} {a0 : Array Value} (hw : ∀ d ∈ tables_1, d.before a0 Z = true) : (Jvm.Cond.instanceMethod ({ cls := "java/lang/String", name := "lastIndexOf", desc := "(I)I" } : Jvm.MethodName)).before a0 Z = true := hw _ (List.mem_of_getElem? (i := 40) rfl)
theorem d8_6 : decode prog_7_method_6_code 6 = .ok (.aload_n 0, 1) := by decide +kernel
theorem d8_7 : decode prog_7_method_6_code 7 = .ok (.bipush 92, 2) := by decide +kernel
theorem d8_9 : decode prog_7_method_6_code 9 = .ok (.invokevirtual 30, 3) := by decide +kernel
theorem d8_12 : decode prog_7_method_6_code 12 = .ok (.invokestatic 36, 3) := by decide +kernel
theorem own_w74 {Z : State} {a0 : Array Value} (hw : ∀ d ∈ tables_1, d.before a0 Z = true) : (Jvm.Cond.methodLink "com/example/partwright/partwright/reader/FormPart" (36 : Nat) ({ cls := "java/lang/Math", name := "max", desc := "(II)I" } : Jvm.MethodName)).before a0 Z = true := hw _ (List.mem_of_getElem? (i := 74) rfl)
theorem own_w76 {Z : State} {a0 : Array Value} (hw : ∀ d ∈ tables_1, d.before a0 Z = true) : (Jvm.Cond.code ({ cls := "java/lang/Math", name := "max", desc := "(II)I" } : Jvm.MethodName) jdk_29_method_65_code (2 : Nat) (Option.some Jvm.ClassFile.FieldType.int)).before a0 Z = true := hw _ (List.mem_of_getElem? (i := 76) rfl)
theorem own_w75 {Z : State} {a0 : Array Value} (hw : ∀ d ∈ tables_1, d.before a0 Z = true) : (Jvm.Cond.static ({ cls := "java/lang/Math", name := "max", desc := "(II)I" } : Jvm.MethodName)).before a0 Z = true := hw _ (List.mem_of_getElem? (i := 75) rfl)
theorem d8_15 : decode prog_7_method_6_code 15 = .ok (.istore_n 1, 1) := by decide +kernel
theorem d8_16 : decode prog_7_method_6_code 16 = .ok (.aload_n 0, 1) := by decide +kernel
theorem d8_17 : decode prog_7_method_6_code 17 = .ok (.iload_n 1, 1) := by decide +kernel
theorem d8_18 : decode prog_7_method_6_code 18 = .ok (.iconst 1, 1) := by decide +kernel
theorem d8_19 : decode prog_7_method_6_code 19 = .ok (.iadd, 1) := by decide +kernel
theorem d8_20 : decode prog_7_method_6_code 20 = .ok (.invokevirtual 42, 3) := by decide +kernel
theorem own_w77 {Z : State} {a0 : Array Value} (hw : ∀ d ∈ tables_1, d.before a0 Z = true) : (Jvm.Cond.methodLink "com/example/partwright/partwright/reader/FormPart" (42 : Nat) ({ cls := "java/lang/String", name := "substring", desc := "(I)Ljava/lang/String;" } : Jvm.MethodName)).before a0 Z = true := hw _ (List.mem_of_getElem? (i := 77) rfl)
theorem own_w81 {Z : State} {a0 : Array Value} (hw : ∀ d ∈ tables_1, d.before a0 Z = true) : (Jvm.Cond.code ({ cls := "java/lang/String", name := "substring", desc := "(I)Ljava/lang/String;" } : Jvm.MethodName) jdk_42_method_91_code (2 : Nat) (Option.some (Jvm.ClassFile.FieldType.object "java/lang/String"))).before a0 Z = true := hw _ (List.mem_of_getElem? (i := 81) rfl)
theorem pd_20 : parseMethodDescriptor "(I)Ljava/lang/String;" = some ⟨[.int], some (.object "java/lang/String")⟩ := by decide +kernel
theorem own_w80 {Z : State} {a0 : Array Value} (hw : ∀ d ∈ tables_1, d.before a0 Z = true) : (Jvm.Cond.selects "java/lang/String" ({ cls := "java/lang/String", name := "substring", desc := "(I)Ljava/lang/String;" } : Jvm.MethodName) ({ cls := "java/lang/String", name := "substring", desc := "(I)Ljava/lang/String;" } : Jvm.MethodName)).before a0 Z = true := hw _ (List.mem_of_getElem? (i := 80) rfl)
theorem own_w78 {Z : State} {a0 : Array Value} (hw : ∀ d ∈ tables_1, d.before a0 Z = true) : (Jvm.Cond.declares ({ cls := "java/lang/String", name := "substring", desc := "(I)Ljava/lang/String;" } : Jvm.MethodName)).before a0 Z = true := hw _ (List.mem_of_getElem? (i := 78) rfl)
theorem own_w79 {Z : State} {a0 : Array Value} (hw : ∀ d ∈ tables_1, d.before a0 Z = true) : (Jvm.Cond.instanceMethod ({ cls := "java/lang/String", name := "substring", desc := "(I)Ljava/lang/String;" } : Jvm.MethodName)).before a0 Z = true := hw _ (List.mem_of_getElem? (i := 79) rfl)
theorem d8_23 : decode prog_7_method_6_code 23 = .ok (.areturn, 1) := by decide +kernel
theorem pn_FormPart : plainName "com/example/partwright/partwright/reader/FormPart" = true := by first | (simp [plainName, overriddenIn]; done) | decide +kernel
theorem ef_rmLP (m : MethodId) (x0 : Addr) : entryFrame m #[(.ref x0)] 2 = mkF m 0 #[.val (.ref x0), .unset] [] := by first | (simp [entryFrame, mkF, argsToLocals, Value.category]; done) | rfl
def QLP (Z : State) (a1 : Addr) (b1 : Addr) (k1 : ClassId) (z1 : Int32) (xs : List Int32) (cs : Int32) (fm : Value) (h0 : Heap) (n0 : Nat) (v : Option Value) (h : Heap) (L : List Loc) : Prop := ∃ (r vb : Addr) (kv : ClassId) (mm bb : Int32), v = some (.ref r) ∧ Fr n0 L ∧ Keep h0 h [] ∧ bb = (own_max (own_lix (47 : Int32) xs) (own_lix (92 : Int32) xs)) + 1 ∧ mm = z1 - bb ∧ Exa Z h r "java/lang/String" ∧ Fld Z h r "java/lang/String" "value" "[B" (.ref vb) ∧ Fld Z h r "java/lang/String" "coder" "B" (.int (0 : Int32)) ∧ Arv Z h vb kv .byte mm ((own_sub xs bb mm).map Value.int) (.int (0 : Int32))
set_option maxRecDepth 65536 in
set_option maxHeartbeats 40000000 in
theorem rmLP (l : Launch) (Z : State) (a0 : Array Value) (hw : ∀ d ∈ tables_1, d.before a0 Z = true) (ws : List Jvm.Cond) (a1 : Addr) (b1 : Addr) (k1 : ClassId) (z1 : Int32) (xs : List Int32) (cs : Int32) (fm : Value) (h0 : Heap) (n0 : Nat) (O0 : Old Z n0 h0) (FS : OwnSt Z cs fm) (E1 : Exa Z h0 a1 "java/lang/String") (Fc1 : Fld Z h0 a1 "java/lang/String" "coder" "B" (.int (0 : Int32))) (Fv1 : Fld Z h0 a1 "java/lang/String" "value" "[B" (.ref b1)) (V1 : Arv Z h0 b1 k1 .byte z1 (xs.map Value.int) (.int (0 : Int32))) (hzl : z1.toNatClampNeg = xs.length) (hz5 : z1.toInt ≤ 5) :
    MetFree l (⟨"com/example/partwright/partwright/reader/FormPart", "lastPathComponent", "(Ljava/lang/String;)Ljava/lang/String;"⟩ : MethodName) (head1 (Jvm.Cond.code (⟨"com/example/partwright/partwright/reader/FormPart", "lastPathComponent", "(Ljava/lang/String;)Ljava/lang/String;"⟩ : MethodName) prog_7_method_6_code 2 (some (.object "java/lang/String")) :: ws) ({ frames := 6, cells := 2, slots := 9, locals := 93 } : Room)) (fun a U => a = #[(.ref a1)] ∧ Z.Warmed39 U.vm ∧ U.heap = h0 ∧ CHv Z own_EL U.vm h0) (fun _ _ _ _ _ => True) (fun _ U o U' => ∃ v L, o = .returned v ∧ QLP Z a1 b1 k1 z1 xs cs fm h0 n0 v U'.heap L ∧ CHr Z own_EL U.vm U.heap U'.vm U'.heap ∧ ReturnedEndW U o U' L ({ frames := 6, cells := 2, slots := 9, locals := 93 } : Room).cells ({ frames := 6, cells := 2, slots := 9, locals := 93 } : Room).slots) := by
  refine MetFree.of_bodySF (plainFor_of_name pn_FormPart) hisR ?_
  intro p e s m args below meth c s₁ Bd hml0 hP hK
  obtain ⟨rfl, hZ, hh, hH0⟩ := hP
  have hx := Bd.exec
  have hby := Bd.bytes
  have hlk : meth.locks = false := BodyLoose.notSynchronized Bd
  have hml : c.maxLocals = 2 := hml0
  have hown : s.vm.findClass "com/example/partwright/partwright/reader/FormPart" = some m.cls := findClass_of_methodNamed Bd.named
  have hnm := (name_of_methodNamed Bd.named Bd.method).1
  have X0 : Stand p l e ({ frames := 6, cells := 2, slots := 9, locals := 93 } : Room) (s.setVm s.vm) m #[(.ref a1)] below meth c s₁ [] 0 0 := Stand.of_body Bd
  have e0 : s₁.heap = h0 := by rw [← hh, Bd.state]; rfl
  have N0 := Fr.nil n0
  have hS0 : s.Since s.vm h0.size := (State.WarmedH.refl s).since _
  show GoesH p e below s Z own_EL (QLP Z a1 b1 k1 z1 xs cs fm h0 n0) ({ frames := 6, cells := 2, slots := 9, locals := 93 } : Room).cells ({ frames := 6, cells := 2, slots := 9, locals := 93 } : Room).slots (s₁.setTop (entryFrame m #[(.ref a1)] 2))
  refine GoesH.enter (g' := (mkF m 0 #[.val (.ref a1), .unset] [])) (ef_rmLP m a1) ?_
  have FS0 := FS
  obtain ⟨S_COMPACT_STRINGS, hcs, S_fm, hfm⟩ := FS0
  have hz0 : ¬ z1 < 0 := by obtain ⟨_, _, _, _, q, _⟩ := id V1; exact q
  refine GoesH.step (fun _ k => pw_aloadN X0.here hx (hb hby d8_0) rfl rfl _ (pw_bipush X0.here hx (v := (47 : Int32)) (hb hby d8_1) rfl _ k)) ?_
  have f2 := S_COMPACT_STRINGS.ext O0.2
  obtain ⟨cq1, kq1, qa1, qb1, qc1⟩ := isOf hZ e0 E1
  obtain ⟨_, _, ⟨T1, qL1, qk1, qn1⟩, -, X1, ⟨Lc1, hQ1, ql1, qy1, qz1⟩, st1⟩ := X0.virtualBack hx (y := (⟨"java/lang/String", "lastIndexOf", "(I)I"⟩ : MethodName)) (z := (⟨"java/lang/String", "lastIndexOf", "(I)I"⟩ : MethodName)) hown (mvT hZ (own_w38 hw)) (mvT hZ (own_w39 hw)) (notFace_of_selects (args := #[]) (mvT hZ (own_w41 hw))) (mvT hZ (own_w41 hw)) (mvT hZ (own_w40 hw)) (by decide) (backOf (W := 0) (rmLK l Z a0 hw [] a1 b1 k1 z1 xs cs (47 : Int32) h0 n0 O0 f2 hcs E1 Fc1 Fv1 V1 hzl hz5 (by decide) (by decide)) hZ (own_w42 hw) (own_w7 hw) (by decide) (by decide)) qa1 qc1 (g := (mkF m 3 #[.val (.ref a1), .unset] [(.int 47), (.ref a1)])) rfl (by rw [hml]; rfl) (Steps.refl _) (argsL := [(.int 47)]) (rest := []) (lenOf pd_19 rfl) rfl (by show 2 * 0 + _ ≤ _; exact Nat.le_of_eq rfl) (hb hby d8_3) (fun _ _ => ⟨rfl, e0, (by decide : 0 + 0 ≤ _), (by decide : 0 + 0 ≤ _)⟩)
  dsimp only [Pt.U, Pt.locs, Pt.cells, Pt.slots] at X1 ql1 qy1 qz1 st1 hQ1
  rw [ql1, qy1, qz1] at X1
  obtain ⟨rfl, Nq1, eh1⟩ := hQ1
  have N1 := Fr.app N0 Nq1
  refine GoesH.via (B := T1.setTop (mkF m 6 #[.val (.ref a1), .unset] [(.int (own_lix (47 : Int32) xs))])) st1 ?_
  refine GoesH.step (fun _ k => pw_aloadN X1.here hx (hb hby d8_6) rfl rfl _ (pw_bipush X1.here hx (v := (92 : Int32)) (hb hby d8_7) rfl _ k)) ?_
  obtain ⟨cq3, kq3, qa3, qb3, qc3⟩ := isOf hZ eh1 E1
  obtain ⟨_, _, ⟨T3, qL3, qk3, qn3⟩, -, X3, ⟨Lc3, hQ3, ql3, qy3, qz3⟩, st3⟩ := X1.virtualBack hx (y := (⟨"java/lang/String", "lastIndexOf", "(I)I"⟩ : MethodName)) (z := (⟨"java/lang/String", "lastIndexOf", "(I)I"⟩ : MethodName)) hown (mvT hZ (own_w38 hw)) (mvT hZ (own_w39 hw)) (notFace_of_selects (args := #[]) (mvT hZ (own_w41 hw))) (mvT hZ (own_w41 hw)) (mvT hZ (own_w40 hw)) (by decide) (backOf (W := 1) (rmLK l Z a0 hw [] a1 b1 k1 z1 xs cs (92 : Int32) h0 n0 O0 f2 hcs E1 Fc1 Fv1 V1 hzl hz5 (by decide) (by decide)) hZ (own_w42 hw) (own_w7 hw) (by decide) (by decide)) qa3 qc3 (g := (mkF m 9 #[.val (.ref a1), .unset] [(.int 92), (.ref a1), (.int (own_lix (47 : Int32) xs))])) rfl (by rw [hml]; rfl) (Steps.refl _) (argsL := [(.int 92)]) (rest := [(.int (own_lix (47 : Int32) xs))]) (lenOf pd_19 rfl) rfl (by show 2 * 0 + _ ≤ _; exact Nat.le_of_eq rfl) (hb hby d8_9) (fun _ _ => ⟨rfl, eh1, (by decide : 0 + 0 ≤ _), (by decide : 0 + 0 ≤ _)⟩)
  dsimp only [Pt.U, Pt.locs, Pt.cells, Pt.slots] at X3 ql3 qy3 qz3 st3 hQ3
  rw [ql3, qy3, qz3] at X3
  obtain ⟨rfl, Nq3, eh3⟩ := hQ3
  have N3 := Fr.app N1 Nq3
  refine GoesH.via (B := T3.setTop (mkF m 12 #[.val (.ref a1), .unset] [(.int (own_lix (92 : Int32) xs)), (.int (own_lix (47 : Int32) xs))])) st3 ?_
  obtain ⟨_, _, ⟨T4, qL4, qk4, qn4⟩, -, X4, ⟨Lc4, hQ4, ql4, qy4, qz4⟩, st4⟩ := Jvm.LawKit.callS X3 hx (y := (⟨"java/lang/Math", "max", "(II)I"⟩ : MethodName)) hown (mvT hZ (own_w74 hw)) (mvT hZ (own_w75 hw)) (mvT hZ (own_w72 hw)) (mvT hZ (own_w76 hw)) (by decide) (backOf (W := 0) (rm17 l Z a0 hw [] (own_lix (47 : Int32) xs) (own_lix (92 : Int32) xs) h0 n0 O0 ) hZ (own_w76 hw) (own_w72 hw) (by decide) (by decide)) (g := (mkF m 12 #[.val (.ref a1), .unset] [(.int (own_lix (92 : Int32) xs)), (.int (own_lix (47 : Int32) xs))])) rfl (by rw [hml]; rfl) (argsL := [(.int (own_lix (47 : Int32) xs)), (.int (own_lix (92 : Int32) xs))]) (rest := []) (lenOf pd_10 rfl) rfl (by show 2 * 0 + _ ≤ _; exact Nat.le_of_eq rfl) (hb hby d8_12) (fun _ _ => ⟨rfl, eh3, (by decide : 0 + 0 ≤ _), (by decide : 0 + 0 ≤ _)⟩)
  dsimp only [Pt.U, Pt.locs, Pt.cells, Pt.slots] at X4 ql4 qy4 qz4 st4 hQ4
  rw [ql4, qy4, qz4] at X4
  obtain ⟨rfl, Nq4, eh4⟩ := hQ4
  have N4 := Fr.app N3 Nq4
  refine GoesH.step (B := T4.setTop (mkF m 15 #[.val (.ref a1), .unset] [(.int (own_max (own_lix (47 : Int32) xs) (own_lix (92 : Int32) xs)))])) st4 ?_
  refine GoesH.step (fun _ k => pw_istoreN X4.here hx (l' := #[.val (.ref a1), .val (.int (own_max (own_lix (47 : Int32) xs) (own_lix (92 : Int32) xs)))]) (hb hby d8_15) rfl _ (pw_aloadN X4.here hx (hb hby d8_16) rfl rfl _ (pw_iloadN X4.here hx (hb hby d8_17) rfl _ (pw_iconst X4.here hx (v := (1 : Int32)) (hb hby d8_18) rfl _ (pw_iadd X4.here hx (hb hby d8_19) _ k))))) ?_
  obtain ⟨bb, hbb⟩ : ∃ z, z = ((own_max (own_lix (47 : Int32) xs) (own_lix (92 : Int32) xs)) + (1 : Int32)) := ⟨_, rfl⟩
  rw [← hbb]
  have hmb := own_mbx 47 92 hzl hz5 hz0
  have hbx := own_bb hbb hmb hz5
  obtain ⟨cq5, kq5, qa5, qb5, qc5⟩ := isOf hZ eh4 E1
  obtain ⟨_, vw5, ⟨T5, qL5, qk5, qn5⟩, -, Xr5, S25, sz5, ⟨Lc5, hQ5, ql5, qy5, qz5, Hc5⟩, st5⟩ := X4.virtualBackS hx (y := (⟨"java/lang/String", "substring", "(I)Ljava/lang/String;"⟩ : MethodName)) (z := (⟨"java/lang/String", "substring", "(I)Ljava/lang/String;"⟩ : MethodName)) hown (mvT hZ (own_w77 hw)) (mvT hZ (own_w78 hw)) (notFace_of_selects (args := #[]) (mvT hZ (own_w80 hw))) (mvT hZ (own_w80 hw)) (mvT hZ (own_w79 hw)) (by decide) (backOfSH (W := 0) (rmS1 l Z a0 hw [] a1 b1 k1 z1 xs bb cs fm h0 n0 O0 FS E1 Fc1 Fv1 V1 hbx.1 hbx.2 hz5 hzl) hZ (own_w81 hw) (own_w7 hw) (by decide) (by decide) (own_EW hw) (CHr.refl hH0).1) qa5 qc5 (g := (mkF m 20 #[.val (.ref a1), .val (.int (own_max (own_lix (47 : Int32) xs) (own_lix (92 : Int32) xs)))] [(.int bb), (.ref a1)])) rfl (by rw [hml]; rfl) (Steps.refl _) (argsL := [(.int bb)]) (rest := []) (lenOf pd_20 rfl) rfl (by show 2 * 0 + _ ≤ _; exact Nat.le_of_eq rfl) (hb hby d8_20) (fun _ _ => ⟨rfl, eh4, (by decide : 0 + 2 ≤ _), (by decide : 0 + 9 ≤ _)⟩)
  dsimp only [Pt.U, Pt.locs, Pt.cells, Pt.slots] at Xr5 S25 sz5 ql5 qy5 qz5 st5 hQ5 Hc5
  rw [ql5, qy5, qz5] at Xr5
  obtain ⟨X5, hS5, hZ5, hown5⟩ := rebS hS0 (by rw [eh4]; exact (Nat.le_refl _)) Xr5 S25 sz5 hZ hown
  have CHc5 := (CHr.refl hH0).trans Hc5
  obtain ⟨nr5, nv5, nk5, nm5, hnm5, rfl, Nq5, Kp5, Er5, Fv5, Fc5, Vr5⟩ := hQ5
  have O_5 := O0.keep Kp5 all0
  have K_5 := (Keep.refl h0 []).trans Kp5 all0
  have N5 := Fr.app N4 Nq5
  refine GoesH.via (B := T5.setTop (mkF m 23 #[.val (.ref a1), .val (.int (own_max (own_lix (47 : Int32) xs) (own_lix (92 : Int32) xs)))] [(.ref nr5)])) st5 ?_
  exact GoesH.retA X5 hS5 (Nat.le_refl _) hZ5 (own_EW hw) (by rw [show s.heap = h0 from hh]; exact CHc5) hx rfl Bd.returns rfl rfl hlk (hb hby d8_23) (by decide) (by decide) (⟨nr5, nv5, nk5, nm5, bb, rfl, N5, K_5, hbb, hnm5, Er5, Fv5, Fc5, Vr5⟩)
theorem d28_0 : decode method_4_code 0 = .ok (.iload_n 1, 1) := by decide +kernel
theorem d28_1 : decode method_4_code 1 = .ok (.iload_n 2, 1) := by decide +kernel
theorem d28_2 : decode method_4_code 2 = .ok (.if_icmp .lt 5, 3) := by decide +kernel
theorem d28_7 : decode method_4_code 7 = .ok (.aload_n 0, 1) := by decide +kernel
theorem d28_8 : decode method_4_code 8 = .ok (.iload_n 1, 1) := by decide +kernel
theorem d28_9 : decode method_4_code 9 = .ok (.invokevirtual 7, 3) := by decide +kernel
theorem own_w124 {Z : State} {a0 : Array Value} (hw : ∀ d ∈ tables_1, d.before a0 Z = true) : (Jvm.Cond.methodLink "com/example/partwright/partwright/reader/FormPartLastPathComponentPinLaw" (7 : Nat) ({ cls := "java/lang/String", name := "charAt", desc := "(I)C" } : Jvm.MethodName)).before a0 Z = true := hw _ (List.mem_of_getElem? (i := 124) rfl)
theorem own_w128 {Z : State} {a0 : Array Value} (hw : ∀ d ∈ tables_1, d.before a0 Z = true) : (Jvm.Cond.code ({ cls := "java/lang/String", name := "charAt", desc := "(I)C" } : Jvm.MethodName) jdk_42_method_56_code (2 : Nat) (Option.some Jvm.ClassFile.FieldType.char)).before a0 Z = true := hw _ (List.mem_of_getElem? (i := 128) rfl)
theorem pd_21 : parseMethodDescriptor "(I)C" = some ⟨[.int], some .char⟩ := by decide +kernel
theorem own_w127 {Z : State} {a0 : Array Value} (hw : ∀ d ∈ tables_1, d.before a0 Z = true) : (Jvm.Cond.selects "java/lang/String" ({ cls := "java/lang/String", name := "charAt", desc := "(I)C" } : Jvm.MethodName) ({ cls := "java/lang/String", name := "charAt", desc := "(I)C" } : Jvm.MethodName)).before a0 Z = true := hw _ (List.mem_of_getElem? (i := 127) rfl)
theorem own_w125 {Z : State} {a0 : Array Value} (hw : ∀ d ∈ tables_1, d.before a0 Z = true) : (Jvm.Cond.declares ({ cls := "java/lang/String", name := "charAt", desc := "(I)C" } : Jvm.MethodName)).before a0 Z = true := hw _ (List.mem_of_getElem? (i := 125) rfl)
theorem own_w126 {Z : State} {a0 : Array Value} (hw : ∀ d ∈ tables_1, d.before a0 Z = true) : (Jvm.Cond.instanceMethod ({ cls := "java/lang/String", name := "charAt", desc := "(I)C" } : Jvm.MethodName)).before a0 Z = true := hw _ (List.mem_of_getElem? (i := 126) rfl)
theorem d28_12 : decode method_4_code 12 = .ok (.aload_n 3, 1) := by decide +kernel
theorem d28_13 : decode method_4_code 13 = .ok (.iload 4, 2) := by decide +kernel
theorem d28_15 : decode method_4_code 15 = .ok (.iload_n 1, 1) := by decide +kernel
theorem d28_16 : decode method_4_code 16 = .ok (.iadd, 1) := by decide +kernel
theorem d28_17 : decode method_4_code 17 = .ok (.caload, 1) := by decide +kernel
theorem d28_18 : decode method_4_code 18 = .ok (.if_icmp .ne 7, 3) := by decide +kernel
theorem d28_21 : decode method_4_code 21 = .ok (.iconst 1, 1) := by decide +kernel
theorem d28_22 : decode method_4_code 22 = .ok (.goto 4, 3) := by decide +kernel
theorem d28_26 : decode method_4_code 26 = .ok (.ireturn, 1) := by decide +kernel
theorem d28_5 : decode method_4_code 5 = .ok (.iconst 1, 1) := by decide +kernel
theorem d28_6 : decode method_4_code 6 = .ok (.ireturn, 1) := by decide +kernel
theorem ef_rmAt (m : MethodId) (x0 : Addr) (x1 : Int32) (x2 : Int32) (x3 : Addr) (x4 : Int32) : entryFrame m #[(.ref x0), (.int x1), (.int x2), (.ref x3), (.int x4)] 5 = mkF m 0 #[.val (.ref x0), .val (.int x1), .val (.int x2), .val (.ref x3), .val (.int x4)] [] := by first | (simp [entryFrame, mkF, argsToLocals, Value.category]; done) | rfl
def QAt (Z : State) (a1 : Addr) (b1 : Addr) (k1 : ClassId) (z1 : Int32) (xs : List Int32) (ca : Addr) (kc : ClassId) (ch0 : Int32) (ch1 : Int32) (ch2 : Int32) (ch3 : Int32) (ch4 : Int32) (ii : Int32) (mm : Int32) (ss : Int32) (cs : Int32) (fm : Value) (h0 : Heap) (n0 : Nat) (v : Option Value) (h : Heap) (L : List Loc) : Prop := v = some (.int 1) ∧ Fr n0 L ∧ h = h0
set_option maxRecDepth 65536 in
set_option maxHeartbeats 40000000 in
theorem rmAt (l : Launch) (Z : State) (a0 : Array Value) (hw : ∀ d ∈ tables_1, d.before a0 Z = true) (ws : List Jvm.Cond) (a1 : Addr) (b1 : Addr) (k1 : ClassId) (z1 : Int32) (xs : List Int32) (ca : Addr) (kc : ClassId) (ch0 : Int32) (ch1 : Int32) (ch2 : Int32) (ch3 : Int32) (ch4 : Int32) (ii : Int32) (mm : Int32) (ss : Int32) (cs : Int32) (fm : Value) (h0 : Heap) (n0 : Nat) (O0 : Old Z n0 h0) (FS : OwnSt Z cs fm) (E1 : Exa Z h0 a1 "java/lang/String") (Fc1 : Fld Z h0 a1 "java/lang/String" "coder" "B" (.int (0 : Int32))) (Fv1 : Fld Z h0 a1 "java/lang/String" "value" "[B" (.ref b1)) (V1 : Arv Z h0 b1 k1 .byte z1 (xs.map Value.int) (.int (0 : Int32))) (Vc : Arv Z h0 ca kc .char (5 : Int32) [.int ch0, .int ch1, .int ch2, .int ch3, .int ch4] (.int (0 : Int32))) (hat : ii < mm → ¬ ii < 0 ∧ ii < z1 ∧ ¬ ss + ii < 0 ∧ ss + ii < (5 : Int32) ∧ own_c (xs.getD ii.toNatClampNeg 0) = ([ch0, ch1, ch2, ch3, ch4] : List Int32).getD (ss + ii).toNatClampNeg 0) :
    MetFree l (⟨"com/example/partwright/partwright/reader/FormPartLastPathComponentPinLaw", "at", "(Ljava/lang/String;II[CI)Z"⟩ : MethodName) (head1 (Jvm.Cond.code (⟨"com/example/partwright/partwright/reader/FormPartLastPathComponentPinLaw", "at", "(Ljava/lang/String;II[CI)Z"⟩ : MethodName) method_4_code 5 (some .boolean) :: ws) ({ frames := 4, cells := 0, slots := 0, locals := 53 } : Room)) (fun a U => a = #[(.ref a1), (.int ii), (.int mm), (.ref ca), (.int ss)] ∧ Z.Warmed39 U.vm ∧ U.heap = h0) (fun _ _ _ _ _ => True) (fun _ U o U' => ∃ v L, o = .returned v ∧ QAt Z a1 b1 k1 z1 xs ca kc ch0 ch1 ch2 ch3 ch4 ii mm ss cs fm h0 n0 v U'.heap L ∧ FrameEnd U o U' L ({ frames := 4, cells := 0, slots := 0, locals := 53 } : Room).cells ({ frames := 4, cells := 0, slots := 0, locals := 53 } : Room).slots) := by
  refine MetFree.of_bodySF (plainFor_of_name pn_FormPartLastPathComponentPinLaw) hisR ?_
  intro p e s m args below meth c s₁ Bd hml0 hP hK
  obtain ⟨rfl, hZ, hh⟩ := hP
  have hx := Bd.exec
  have hby := Bd.bytes
  have hlk : meth.locks = false := BodyLoose.notSynchronized Bd
  have hml : c.maxLocals = 5 := hml0
  have hown : s.vm.findClass "com/example/partwright/partwright/reader/FormPartLastPathComponentPinLaw" = some m.cls := findClass_of_methodNamed Bd.named
  have hnm := (name_of_methodNamed Bd.named Bd.method).1
  have X0 : Stand p l e ({ frames := 4, cells := 0, slots := 0, locals := 53 } : Room) s m #[(.ref a1), (.int ii), (.int mm), (.ref ca), (.int ss)] below meth c s₁ [] 0 0 := Stand.of_body Bd
  have e0 : s₁.heap = h0 := by rw [← hh, Bd.state]; rfl
  have N0 := Fr.nil n0
  show Goes p e below s (QAt Z a1 b1 k1 z1 xs ca kc ch0 ch1 ch2 ch3 ch4 ii mm ss cs fm h0 n0) ({ frames := 4, cells := 0, slots := 0, locals := 53 } : Room).cells ({ frames := 4, cells := 0, slots := 0, locals := 53 } : Room).slots (s₁.setTop (entryFrame m #[(.ref a1), (.int ii), (.int mm), (.ref ca), (.int ss)] 5))
  refine Goes.enter (g' := (mkF m 0 #[.val (.ref a1), .val (.int ii), .val (.int mm), .val (.ref ca), .val (.int ss)] [])) (ef_rmAt m a1 ii mm ca ss) ?_
  have FS0 := FS
  obtain ⟨S_COMPACT_STRINGS, hcs, S_fm, hfm⟩ := FS0
  refine Goes.step (fun _ k => pw_iloadN X0.here hx (hb hby d28_0) rfl _ (pw_iloadN X0.here hx (hb hby d28_1) rfl _ k)) ?_
  by_cases hc2_0 : ii < mm
  · refine Goes.step (fun _ k => pw_icmpYes X0.here hx (pc' := 7) (hb hby d28_2) (tlt hc2_0).1 (by decide) (by decide) _ k) ?_
    obtain ⟨hi0, hi1, hj0, hj1, hcq⟩ := hat hc2_0
    refine Goes.step (fun _ k => pw_aloadN X0.here hx (hb hby d28_7) rfl rfl _ (pw_iloadN X0.here hx (hb hby d28_8) rfl _ k)) ?_
    have f3 := S_COMPACT_STRINGS.ext O0.2
    obtain ⟨cq2, kq2, qa2, qb2, qc2⟩ := isOf hZ e0 E1
    obtain ⟨_, _, ⟨T2, qL2, qk2, qn2⟩, -, X2, ⟨Lc2, hQ2, ql2, qy2, qz2⟩, st2⟩ := X0.virtualBack hx (y := (⟨"java/lang/String", "charAt", "(I)C"⟩ : MethodName)) (z := (⟨"java/lang/String", "charAt", "(I)C"⟩ : MethodName)) hown (mvT hZ (own_w124 hw)) (mvT hZ (own_w125 hw)) (notFace_of_selects (args := #[]) (mvT hZ (own_w127 hw))) (mvT hZ (own_w127 hw)) (mvT hZ (own_w126 hw)) (by decide) (backOf (W := 0) (rm29 l Z a0 hw [] a1 b1 k1 z1 xs ii cs fm h0 n0 O0 FS E1 Fc1 Fv1 V1 hi0 hi1) hZ (own_w128 hw) (own_w7 hw) (by decide) (by decide)) qa2 qc2 (g := (mkF m 9 #[.val (.ref a1), .val (.int ii), .val (.int mm), .val (.ref ca), .val (.int ss)] [(.int ii), (.ref a1)])) rfl (by rw [hml]; rfl) (Steps.refl _) (argsL := [(.int ii)]) (rest := []) (lenOf pd_21 rfl) rfl (by show 2 * 0 + _ ≤ _; exact Nat.le_of_eq rfl) (hb hby d28_9) (fun _ _ => ⟨rfl, e0, (by decide : 0 + 0 ≤ _), (by decide : 0 + 0 ≤ _)⟩)
    dsimp only [Pt.U, Pt.locs, Pt.cells, Pt.slots] at X2 ql2 qy2 qz2 st2 hQ2
    rw [ql2, qy2, qz2] at X2
    obtain ⟨rfl, Nq2, eh2⟩ := hQ2
    have N2 := Fr.app N0 Nq2
    refine Goes.via (B := T2.setTop (mkF m 12 #[.val (.ref a1), .val (.int ii), .val (.int mm), .val (.ref ca), .val (.int ss)] [(.int (own_c (xs.getD ii.toNatClampNeg 0)))])) st2 ?_
    refine Goes.step (fun _ k => pw_aloadN X2.here hx (hb hby d28_12) rfl rfl _ (pw_iload X2.here hx (hb hby d28_13) rfl _ (pw_iloadN X2.here hx (hb hby d28_15) rfl _ (pw_iadd X2.here hx (hb hby d28_16) _ k)))) ?_
    obtain ⟨c4, Ar4, -, Sz4, Nn4, Hs4, -⟩ := id Vc
    have hin4 : ¬ ((ss + ii) < 0 ∨ c4.slots.size ≤ ((ss + ii)).toNatClampNeg) := inb_of Sz4 ⟨hj0, hj1⟩
    refine Goes.step (B := T2.setTop (mkF m 18 #[.val (.ref a1), .val (.int ii), .val (.int mm), .val (.ref ca), .val (.int ss)] [(.int (([ch0, ch1, ch2, ch3, ch4] : List Int32).getD (ss + ii).toNatClampNeg 0)), (.int (own_c (xs.getD ii.toNatClampNeg 0)))])) (X2.caload hx (j := (ss + ii)) (v := (.int (([ch0, ch1, ch2, ch3, ch4] : List Int32).getD (ss + ii).toNatClampNeg 0))) (by rw [eh2]; exact Ar4.1) (State.isArrayOf_alike hZ.alike Ar4.2.1) Ar4.2.2 hin4 (Has.at Hs4 hin4 (own_getD [ch0, ch1, ch2, ch3, ch4] _)) (g := (mkF m 17 #[.val (.ref a1), .val (.int ii), .val (.int mm), .val (.ref ca), .val (.int ss)] [(.int (ss + ii)), (.ref ca), (.int (own_c (xs.getD ii.toNatClampNeg 0)))])) rfl rfl (hb hby d28_17)) ?_
    refine Goes.step (fun _ k => pw_icmpNo X2.here hx (hb hby d28_18) (teq hcq).2 _ (pw_iconst X2.here hx (v := (1 : Int32)) (hb hby d28_21) rfl _ (pw_goto X2.here hx (pc' := 26) (hb hby d28_22) (by decide) (by decide) _ k))) ?_
    exact Goes.retN X2 hx eh2 (t := .boolean) Bd.returns (by simp) hlk (hb hby d28_26) (by decide) (by decide) (⟨rfl, N2, rfl⟩)
  · refine Goes.step (fun _ k => pw_icmpNo X0.here hx (hb hby d28_2) (flt hc2_0).1 _ (pw_iconst X0.here hx (v := (1 : Int32)) (hb hby d28_5) rfl _ k)) ?_
    exact Goes.retN X0 hx e0 (t := .boolean) Bd.returns (by simp) hlk (hb hby d28_6) (by decide) (by decide) (⟨rfl, N0, rfl⟩)
theorem own_w0 {Z : State} {a0 : Array Value} (hw : ∀ d ∈ tables_1, d.before a0 Z = true) : (Jvm.Cond.arrayClass Jvm.ClassFile.FieldType.char).before a0 Z = true := hw _ (List.mem_of_getElem? (i := 0) rfl)
theorem own_w1 {Z : State} {a0 : Array Value} (hw : ∀ d ∈ tables_1, d.before a0 Z = true) : (Jvm.Cond.methodLink "com/example/partwright/partwright/reader/FormPartLastPathComponentPinLaw" (13 : Nat) ({ cls := "com/example/partwright/partwright/reader/FormPartLastPathComponentPinLaw", name := "ch", desc := "(I)C" } : Jvm.MethodName)).before a0 Z = true := hw _ (List.mem_of_getElem? (i := 1) rfl)
theorem own_w4 {Z : State} {a0 : Array Value} (hw : ∀ d ∈ tables_1, d.before a0 Z = true) : (Jvm.Cond.code ({ cls := "com/example/partwright/partwright/reader/FormPartLastPathComponentPinLaw", name := "ch", desc := "(I)C" } : Jvm.MethodName) method_2_code (2 : Nat) (Option.some Jvm.ClassFile.FieldType.char)).before a0 Z = true := hw _ (List.mem_of_getElem? (i := 4) rfl)
theorem own_w3 {Z : State} {a0 : Array Value} (hw : ∀ d ∈ tables_1, d.before a0 Z = true) : (Jvm.Cond.initialized "com/example/partwright/partwright/reader/FormPartLastPathComponentPinLaw").before a0 Z = true := hw _ (List.mem_of_getElem? (i := 3) rfl)
theorem own_w2 {Z : State} {a0 : Array Value} (hw : ∀ d ∈ tables_1, d.before a0 Z = true) : (Jvm.Cond.static ({ cls := "com/example/partwright/partwright/reader/FormPartLastPathComponentPinLaw", name := "ch", desc := "(I)C" } : Jvm.MethodName)).before a0 Z = true := hw _ (List.mem_of_getElem? (i := 2) rfl)
theorem own_w5 {Z : State} {a0 : Array Value} (hw : ∀ d ∈ tables_1, d.before a0 Z = true) : (Jvm.Cond.classLink "com/example/partwright/partwright/reader/FormPartLastPathComponentPinLaw" (8 : Nat) "java/lang/String").before a0 Z = true := hw _ (List.mem_of_getElem? (i := 5) rfl)
theorem own_w8 {Z : State} {a0 : Array Value} (hw : ∀ d ∈ tables_1, d.before a0 Z = true) : (Jvm.Cond.methodLink "com/example/partwright/partwright/reader/FormPartLastPathComponentPinLaw" (18 : Nat) ({ cls := "java/lang/String", name := "<init>", desc := "([C)V" } : Jvm.MethodName)).before a0 Z = true := hw _ (List.mem_of_getElem? (i := 8) rfl)
theorem own_w10 {Z : State} {a0 : Array Value} (hw : ∀ d ∈ tables_1, d.before a0 Z = true) : (Jvm.Cond.code ({ cls := "java/lang/String", name := "<init>", desc := "([C)V" } : Jvm.MethodName) jdk_42_method_3_code (2 : Nat) (Option.none : Option Jvm.ClassFile.FieldType)).before a0 Z = true := hw _ (List.mem_of_getElem? (i := 10) rfl)
theorem pd_22 : parseMethodDescriptor "([C)V" = some ⟨[(.array .char)], none⟩ := by decide +kernel
theorem own_w9 {Z : State} {a0 : Array Value} (hw : ∀ d ∈ tables_1, d.before a0 Z = true) : (Jvm.Cond.instanceMethod ({ cls := "java/lang/String", name := "<init>", desc := "([C)V" } : Jvm.MethodName)).before a0 Z = true := hw _ (List.mem_of_getElem? (i := 9) rfl)
theorem own_w34 {Z : State} {a0 : Array Value} (hw : ∀ d ∈ tables_1, d.before a0 Z = true) : (Jvm.Cond.methodLink "com/example/partwright/partwright/reader/FormPartLastPathComponentPinLaw" (21 : Nat) ({ cls := "com/example/partwright/partwright/reader/FormPart", name := "lastPathComponent", desc := "(Ljava/lang/String;)Ljava/lang/String;" } : Jvm.MethodName)).before a0 Z = true := hw _ (List.mem_of_getElem? (i := 34) rfl)
theorem own_w37 {Z : State} {a0 : Array Value} (hw : ∀ d ∈ tables_1, d.before a0 Z = true) : (Jvm.Cond.code ({ cls := "com/example/partwright/partwright/reader/FormPart", name := "lastPathComponent", desc := "(Ljava/lang/String;)Ljava/lang/String;" } : Jvm.MethodName) prog_7_method_6_code (2 : Nat) (Option.some (Jvm.ClassFile.FieldType.object "java/lang/String"))).before a0 Z = true := hw _ (List.mem_of_getElem? (i := 37) rfl)
theorem own_w36 {Z : State} {a0 : Array Value} (hw : ∀ d ∈ tables_1, d.before a0 Z = true) : (Jvm.Cond.initialized "com/example/partwright/partwright/reader/FormPart").before a0 Z = true := hw _ (List.mem_of_getElem? (i := 36) rfl)
theorem pd_23 : parseMethodDescriptor "(Ljava/lang/String;)Ljava/lang/String;" = some ⟨[(.object "java/lang/String")], some (.object "java/lang/String")⟩ := by decide +kernel
theorem own_w35 {Z : State} {a0 : Array Value} (hw : ∀ d ∈ tables_1, d.before a0 Z = true) : (Jvm.Cond.static ({ cls := "com/example/partwright/partwright/reader/FormPart", name := "lastPathComponent", desc := "(Ljava/lang/String;)Ljava/lang/String;" } : Jvm.MethodName)).before a0 Z = true := hw _ (List.mem_of_getElem? (i := 35) rfl)
theorem own_w120 {Z : State} {a0 : Array Value} (hw : ∀ d ∈ tables_1, d.before a0 Z = true) : (Jvm.Cond.methodLink "com/example/partwright/partwright/reader/FormPartLastPathComponentPinLaw" (31 : Nat) ({ cls := "java/lang/String", name := "length", desc := "()I" } : Jvm.MethodName)).before a0 Z = true := hw _ (List.mem_of_getElem? (i := 120) rfl)
theorem own_w121 {Z : State} {a0 : Array Value} (hw : ∀ d ∈ tables_1, d.before a0 Z = true) : (Jvm.Cond.methodLink "com/example/partwright/partwright/reader/FormPartLastPathComponentPinLaw" (35 : Nat) ({ cls := "com/example/partwright/partwright/reader/FormPartLastPathComponentPinLaw", name := "at", desc := "(Ljava/lang/String;II[CI)Z" } : Jvm.MethodName)).before a0 Z = true := hw _ (List.mem_of_getElem? (i := 121) rfl)
theorem own_w123 {Z : State} {a0 : Array Value} (hw : ∀ d ∈ tables_1, d.before a0 Z = true) : (Jvm.Cond.code ({ cls := "com/example/partwright/partwright/reader/FormPartLastPathComponentPinLaw", name := "at", desc := "(Ljava/lang/String;II[CI)Z" } : Jvm.MethodName) method_4_code (5 : Nat) (Option.some Jvm.ClassFile.FieldType.boolean)).before a0 Z = true := hw _ (List.mem_of_getElem? (i := 123) rfl)
theorem pd_24 : parseMethodDescriptor "(Ljava/lang/String;II[CI)Z" = some ⟨[(.object "java/lang/String"), .int, .int, (.array .char), .int], some .boolean⟩ := by decide +kernel
theorem own_w122 {Z : State} {a0 : Array Value} (hw : ∀ d ∈ tables_1, d.before a0 Z = true) : (Jvm.Cond.static ({ cls := "com/example/partwright/partwright/reader/FormPartLastPathComponentPinLaw", name := "at", desc := "(Ljava/lang/String;II[CI)Z" } : Jvm.MethodName)).before a0 Z = true := hw _ (List.mem_of_getElem? (i := 122) rfl)
theorem own_w117 {Z : State} {a0 : Array Value} (hw : ∀ d ∈ tables_1, d.before a0 Z = true) : (Jvm.Cond.methodLink "com/example/partwright/partwright/reader/FormPartLastPathComponentPinLaw" (27 : Nat) ({ cls := "com/example/partwright/partwright/reader/FormPartLastPathComponentPinLaw", name := "sep", desc := "(C)Z" } : Jvm.MethodName)).before a0 Z = true := hw _ (List.mem_of_getElem? (i := 117) rfl)
theorem own_w119 {Z : State} {a0 : Array Value} (hw : ∀ d ∈ tables_1, d.before a0 Z = true) : (Jvm.Cond.code ({ cls := "com/example/partwright/partwright/reader/FormPartLastPathComponentPinLaw", name := "sep", desc := "(C)Z" } : Jvm.MethodName) method_3_code (1 : Nat) (Option.some Jvm.ClassFile.FieldType.boolean)).before a0 Z = true := hw _ (List.mem_of_getElem? (i := 119) rfl)
theorem pd_25 : parseMethodDescriptor "(C)Z" = some ⟨[.char], some .boolean⟩ := by decide +kernel
theorem own_w118 {Z : State} {a0 : Array Value} (hw : ∀ d ∈ tables_1, d.before a0 Z = true) : (Jvm.Cond.static ({ cls := "com/example/partwright/partwright/reader/FormPartLastPathComponentPinLaw", name := "sep", desc := "(C)Z" } : Jvm.MethodName)).before a0 Z = true := hw _ (List.mem_of_getElem? (i := 118) rfl)
theorem ef_rm0 (m : MethodId) (x0 : Int32) (x1 : Int32) (x2 : Int32) (x3 : Int32) (x4 : Int32) (x5 : Int32) : entryFrame m #[(.int x0), (.int x1), (.int x2), (.int x3), (.int x4), (.int x5)] maxLocals = mkF m 0 #[.val (.int x0), .val (.int x1), .val (.int x2), .val (.int x3), .val (.int x4), .val (.int x5), .unset, .unset, .unset, .unset, .unset, .unset, .unset] [] := by first | (simp [entryFrame, mkF, argsToLocals, Value.category, maxLocals]; done) | rfl
def Q0 (Z : State) (i0 : Int32) (i1 : Int32) (i2 : Int32) (i3 : Int32) (i4 : Int32) (i5 : Int32) (cs : Int32) (fm : Value) (h0 : Heap) (n0 : Nat) (v : Option Value) (h : Heap) (L : List Loc) : Prop := v = some (.int 1) ∧ Fr n0 L
set_option maxRecDepth 65536 in
set_option maxHeartbeats 40000000 in
theorem rm0 (l : Launch) (Z : State) (a0 : Array Value) (hw : ∀ d ∈ tables_1, d.before a0 Z = true) (ws : List Jvm.Cond) (i0 : Int32) (i1 : Int32) (i2 : Int32) (i3 : Int32) (i4 : Int32) (i5 : Int32) (cs : Int32) (fm : Value) (h0 : Heap) (n0 : Nat) (O0 : Old Z n0 h0) (FS : OwnSt Z cs fm) :
    MetFree l x (head1 (Jvm.Cond.code x code maxLocals ret :: ws) room_1) (fun a U => a = #[(.int i0), (.int i1), (.int i2), (.int i3), (.int i4), (.int i5)] ∧ Z.Warmed39 U.vm ∧ U.heap = h0 ∧ CHv Z own_EL U.vm h0) (fun _ _ _ _ _ => True) (fun _ U o U' => ∃ v L, o = .returned v ∧ Q0 Z i0 i1 i2 i3 i4 i5 cs fm h0 n0 v U'.heap L ∧ ReturnedEndW U o U' L room_1.cells room_1.slots) := by
  refine MetFree.of_bodySF (plainFor_of_name pn_FormPartLastPathComponentPinLaw) hisR ?_
  intro p e s m args below meth c s₁ Bd hml0 hP hK
  obtain ⟨rfl, hZ, hh, hH0⟩ := hP
  have hx := Bd.exec
  have hby := Bd.bytes
  have hlk : meth.locks = false := BodyLoose.notSynchronized Bd
  have hml : c.maxLocals = 13 := hml0
  have hown : s.vm.findClass "com/example/partwright/partwright/reader/FormPartLastPathComponentPinLaw" = some m.cls := findClass_of_methodNamed Bd.named
  have hnm := (name_of_methodNamed Bd.named Bd.method).1
  have X0 : Stand p l e room_1 (s.setVm s.vm) m #[(.int i0), (.int i1), (.int i2), (.int i3), (.int i4), (.int i5)] below meth c s₁ [] 0 0 := Stand.of_body Bd
  have e0 : s₁.heap = h0 := by rw [← hh, Bd.state]; rfl
  have N0 := Fr.nil n0
  have hS0 : s.Since s.vm h0.size := (State.WarmedH.refl s).since _
  show GoesW p e below s (Q0 Z i0 i1 i2 i3 i4 i5 cs fm h0 n0) room_1.cells room_1.slots (s₁.setTop (entryFrame m #[(.int i0), (.int i1), (.int i2), (.int i3), (.int i4), (.int i5)] maxLocals))
  refine GoesW.enter (g' := (mkF m 0 #[.val (.int i0), .val (.int i1), .val (.int i2), .val (.int i3), .val (.int i4), .val (.int i5), .unset, .unset, .unset, .unset, .unset, .unset, .unset] [])) (ef_rm0 m i0 i1 i2 i3 i4 i5) ?_
  have FS0 := FS
  obtain ⟨S_COMPACT_STRINGS, hcs, S_fm, hfm⟩ := FS0
  refine GoesW.step (fun _ k => pw_iconst X0.here hx (v := (5 : Int32)) (hb hby at_0) rfl _ k) ?_
  obtain ⟨T1, h1, k1, X1, e1, E1, A1, st1⟩ := newP (aty := .char) X0 hx hZ (own_w0 hw) e0 (g := (mkF m 1 #[.val (.int i0), .val (.int i1), .val (.int i2), .val (.int i3), .val (.int i4), .val (.int i5), .unset, .unset, .unset, .unset, .unset, .unset, .unset] [(.int 5)])) rfl (hb hby at_1) rfl (by decide) (cap := 5) (by decide) (by decide) (by decide) (by decide)
  obtain ⟨b1, g1⟩ : ∃ z, z = h0.size := ⟨_, rfl⟩
  rw [← g1] at A1 st1
  have g_b1 : n0 ≤ b1 := Nat.le_trans (own_z O0) (Nat.le_of_eq g1.symm)
  have Sf_b1 := Safe.ext E1 (CHr.refl hH0).1 (Safe.new (Nat.le_of_eq g1.symm))
  have CH2 := (CHr.refl hH0).trans (CHr.ext E1 (CHr.refl hH0).1)
  have O_1 := O0.ext E1
  have V_b1 : Arv Z h1 b1 k1 .char (5 : Int32) [(.int 0), (.int 0), (.int 0), (.int 0), (.int 0)] (.int 0) := (Arv.new A1 (by decide)).pad (pad_rep [] (.int 0) 5)
  refine GoesW.step (B := T1.setTop (mkF m 3 #[.val (.int i0), .val (.int i1), .val (.int i2), .val (.int i3), .val (.int i4), .val (.int i5), .unset, .unset, .unset, .unset, .unset, .unset, .unset] [(.ref b1)])) st1 ?_
  refine GoesW.step (fun _ k => pw_dup X1.here hx (hb hby at_3) rfl _ (pw_iconst X1.here hx (v := (0 : Int32)) (hb hby at_4) rfl _ (pw_iloadN X1.here hx (hb hby at_5) rfl _ k))) ?_
  obtain ⟨_, _, ⟨T3, qL3, qk3, qn3⟩, -, X3, ⟨Lc3, hQ3, ql3, qy3, qz3⟩, st3⟩ := Jvm.LawKit.callS X1 hx (y := (⟨"com/example/partwright/partwright/reader/FormPartLastPathComponentPinLaw", "ch", "(I)C"⟩ : MethodName)) hown (mvT hZ (own_w1 hw)) (mvT hZ (own_w2 hw)) (mvT hZ (own_w3 hw)) (mvT hZ (own_w4 hw)) (by decide) (backOf (W := 3) (rm1 l Z a0 hw [] i0 h1 n0 O_1 ) hZ (own_w4 hw) (own_w3 hw) (by decide) (by decide)) (g := (mkF m 6 #[.val (.int i0), .val (.int i1), .val (.int i2), .val (.int i3), .val (.int i4), .val (.int i5), .unset, .unset, .unset, .unset, .unset, .unset, .unset] [(.int i0), (.int 0), (.ref b1), (.ref b1)])) rfl (by rw [hml]; rfl) (argsL := [(.int i0)]) (rest := [(.int 0), (.ref b1), (.ref b1)]) (lenOf pd_21 rfl) rfl (by show 2 * 0 + _ ≤ _; exact Nat.le_of_eq rfl) (hb hby at_6) (fun _ _ => ⟨rfl, e1, (by decide : 1 + 0 ≤ _), (by decide : 5 + 0 ≤ _)⟩)
  dsimp only [Pt.U, Pt.locs, Pt.cells, Pt.slots] at X3 ql3 qy3 qz3 st3 hQ3
  rw [ql3, qy3, qz3] at X3
  obtain ⟨r_3, rfl, hok_3, Nq3, eh3⟩ := hQ3
  have N3 := Fr.app N0 Nq3
  refine GoesW.step (B := T3.setTop (mkF m 9 #[.val (.int i0), .val (.int i1), .val (.int i2), .val (.int i3), .val (.int i4), .val (.int i5), .unset, .unset, .unset, .unset, .unset, .unset, .unset] [(.int r_3), (.int 0), (.ref b1), (.ref b1)])) st3 ?_
  obtain ⟨c4, Ar4, q4, Sz4, Nn4, Hs4, Gs4⟩ := id V_b1
  have hin4 : ¬ ((0 : Int32) < 0 ∨ c4.slots.size ≤ ((0 : Int32)).toNatClampNeg) := inb_of Sz4 ⟨by decide, by decide⟩
  obtain ⟨T4, h4, X4, e4, W4, st4⟩ := stC X3 hx hZ eh3 Ar4 (j := (0 : Int32)) hin4 (g := (mkF m 9 #[.val (.int i0), .val (.int i1), .val (.int i2), .val (.int i3), .val (.int i4), .val (.int i5), .unset, .unset, .unset, .unset, .unset, .unset, .unset] [(.int r_3), (.int 0), (.ref b1), (.ref b1)])) rfl rfl (hb hby at_9)
  have Sf5 := Safe.wr W4 Sf_b1 CH2.1 Sf_b1
  have CH6 := CH2.trans (CHr.wr W4 Sf_b1 CH2.1)
  have V4 : Arv Z h4 b1 k1 .char (5 : Int32) [(.int (nar .char r_3)), (.int 0), (.int 0), (.int 0), (.int 0)] (.int 0) := Arv.set Ar4 q4 Sz4 Nn4 Hs4 Gs4 (fits_nar_char _) W4 0 rfl (Nat.le_of_ble_eq_true rfl)
  have Vn4 : Arv Z h4 b1 k1 .char (5 : Int32) [(.int r_3), (.int 0), (.int 0), (.int 0), (.int 0)] (.int 0) := by have q := V4; rw [own_nr hok_3] at q; exact q
  have N4 := Fr.snoc X4 N3 g_b1
  have O_4 := O_1.wr W4 g_b1
  refine GoesW.step (B := T4.setTop (mkF m 10 #[.val (.int i0), .val (.int i1), .val (.int i2), .val (.int i3), .val (.int i4), .val (.int i5), .unset, .unset, .unset, .unset, .unset, .unset, .unset] [(.ref b1)])) st4 ?_
  refine GoesW.step (fun _ k => pw_dup X4.here hx (hb hby at_10) rfl _ (pw_iconst X4.here hx (v := (1 : Int32)) (hb hby at_11) rfl _ (pw_iloadN X4.here hx (hb hby at_12) rfl _ k))) ?_
  obtain ⟨_, _, ⟨T7, qL7, qk7, qn7⟩, -, X7, ⟨Lc7, hQ7, ql7, qy7, qz7⟩, st7⟩ := Jvm.LawKit.callS X4 hx (y := (⟨"com/example/partwright/partwright/reader/FormPartLastPathComponentPinLaw", "ch", "(I)C"⟩ : MethodName)) hown (mvT hZ (own_w1 hw)) (mvT hZ (own_w2 hw)) (mvT hZ (own_w3 hw)) (mvT hZ (own_w4 hw)) (by decide) (backOf (W := 3) (rm1 l Z a0 hw [] i1 h4 n0 O_4 ) hZ (own_w4 hw) (own_w3 hw) (by decide) (by decide)) (g := (mkF m 13 #[.val (.int i0), .val (.int i1), .val (.int i2), .val (.int i3), .val (.int i4), .val (.int i5), .unset, .unset, .unset, .unset, .unset, .unset, .unset] [(.int i1), (.int 1), (.ref b1), (.ref b1)])) rfl (by rw [hml]; rfl) (argsL := [(.int i1)]) (rest := [(.int 1), (.ref b1), (.ref b1)]) (lenOf pd_21 rfl) rfl (by show 2 * 0 + _ ≤ _; exact Nat.le_of_eq rfl) (hb hby at_13) (fun _ _ => ⟨rfl, e4, (by decide : 1 + 0 ≤ _), (by decide : 5 + 0 ≤ _)⟩)
  dsimp only [Pt.U, Pt.locs, Pt.cells, Pt.slots] at X7 ql7 qy7 qz7 st7 hQ7
  rw [ql7, qy7, qz7] at X7
  obtain ⟨r_7, rfl, hok_7, Nq7, eh7⟩ := hQ7
  have N7 := Fr.app N4 Nq7
  refine GoesW.step (B := T7.setTop (mkF m 16 #[.val (.int i0), .val (.int i1), .val (.int i2), .val (.int i3), .val (.int i4), .val (.int i5), .unset, .unset, .unset, .unset, .unset, .unset, .unset] [(.int r_7), (.int 1), (.ref b1), (.ref b1)])) st7 ?_
  obtain ⟨c8, Ar8, q8, Sz8, Nn8, Hs8, Gs8⟩ := id Vn4
  have hin8 : ¬ ((1 : Int32) < 0 ∨ c8.slots.size ≤ ((1 : Int32)).toNatClampNeg) := inb_of Sz8 ⟨by decide, by decide⟩
  obtain ⟨T8, h8, X8, e8, W8, st8⟩ := stC X7 hx hZ eh7 Ar8 (j := (1 : Int32)) hin8 (g := (mkF m 16 #[.val (.int i0), .val (.int i1), .val (.int i2), .val (.int i3), .val (.int i4), .val (.int i5), .unset, .unset, .unset, .unset, .unset, .unset, .unset] [(.int r_7), (.int 1), (.ref b1), (.ref b1)])) rfl rfl (hb hby at_16)
  have Sf9 := Safe.wr W8 Sf5 CH6.1 Sf5
  have CH10 := CH6.trans (CHr.wr W8 Sf5 CH6.1)
  have V8 : Arv Z h8 b1 k1 .char (5 : Int32) [(.int r_3), (.int (nar .char r_7)), (.int 0), (.int 0), (.int 0)] (.int 0) := Arv.set Ar8 q8 Sz8 Nn8 Hs8 Gs8 (fits_nar_char _) W8 1 rfl (Nat.le_of_ble_eq_true rfl)
  have Vn8 : Arv Z h8 b1 k1 .char (5 : Int32) [(.int r_3), (.int r_7), (.int 0), (.int 0), (.int 0)] (.int 0) := by have q := V8; rw [own_nr hok_7] at q; exact q
  have N8 := Fr.snoc X8 N7 g_b1
  have O_8 := O_4.wr W8 g_b1
  refine GoesW.step (B := T8.setTop (mkF m 17 #[.val (.int i0), .val (.int i1), .val (.int i2), .val (.int i3), .val (.int i4), .val (.int i5), .unset, .unset, .unset, .unset, .unset, .unset, .unset] [(.ref b1)])) st8 ?_
  refine GoesW.step (fun _ k => pw_dup X8.here hx (hb hby at_17) rfl _ (pw_iconst X8.here hx (v := (2 : Int32)) (hb hby at_18) rfl _ (pw_iloadN X8.here hx (hb hby at_19) rfl _ k))) ?_
  obtain ⟨_, _, ⟨T11, qL11, qk11, qn11⟩, -, X11, ⟨Lc11, hQ11, ql11, qy11, qz11⟩, st11⟩ := Jvm.LawKit.callS X8 hx (y := (⟨"com/example/partwright/partwright/reader/FormPartLastPathComponentPinLaw", "ch", "(I)C"⟩ : MethodName)) hown (mvT hZ (own_w1 hw)) (mvT hZ (own_w2 hw)) (mvT hZ (own_w3 hw)) (mvT hZ (own_w4 hw)) (by decide) (backOf (W := 3) (rm1 l Z a0 hw [] i2 h8 n0 O_8 ) hZ (own_w4 hw) (own_w3 hw) (by decide) (by decide)) (g := (mkF m 20 #[.val (.int i0), .val (.int i1), .val (.int i2), .val (.int i3), .val (.int i4), .val (.int i5), .unset, .unset, .unset, .unset, .unset, .unset, .unset] [(.int i2), (.int 2), (.ref b1), (.ref b1)])) rfl (by rw [hml]; rfl) (argsL := [(.int i2)]) (rest := [(.int 2), (.ref b1), (.ref b1)]) (lenOf pd_21 rfl) rfl (by show 2 * 0 + _ ≤ _; exact Nat.le_of_eq rfl) (hb hby at_20) (fun _ _ => ⟨rfl, e8, (by decide : 1 + 0 ≤ _), (by decide : 5 + 0 ≤ _)⟩)
  dsimp only [Pt.U, Pt.locs, Pt.cells, Pt.slots] at X11 ql11 qy11 qz11 st11 hQ11
  rw [ql11, qy11, qz11] at X11
  obtain ⟨r_11, rfl, hok_11, Nq11, eh11⟩ := hQ11
  have N11 := Fr.app N8 Nq11
  refine GoesW.step (B := T11.setTop (mkF m 23 #[.val (.int i0), .val (.int i1), .val (.int i2), .val (.int i3), .val (.int i4), .val (.int i5), .unset, .unset, .unset, .unset, .unset, .unset, .unset] [(.int r_11), (.int 2), (.ref b1), (.ref b1)])) st11 ?_
  obtain ⟨c12, Ar12, q12, Sz12, Nn12, Hs12, Gs12⟩ := id Vn8
  have hin12 : ¬ ((2 : Int32) < 0 ∨ c12.slots.size ≤ ((2 : Int32)).toNatClampNeg) := inb_of Sz12 ⟨by decide, by decide⟩
  obtain ⟨T12, h12, X12, e12, W12, st12⟩ := stC X11 hx hZ eh11 Ar12 (j := (2 : Int32)) hin12 (g := (mkF m 23 #[.val (.int i0), .val (.int i1), .val (.int i2), .val (.int i3), .val (.int i4), .val (.int i5), .unset, .unset, .unset, .unset, .unset, .unset, .unset] [(.int r_11), (.int 2), (.ref b1), (.ref b1)])) rfl rfl (hb hby at_23)
  have Sf13 := Safe.wr W12 Sf9 CH10.1 Sf9
  have CH14 := CH10.trans (CHr.wr W12 Sf9 CH10.1)
  have V12 : Arv Z h12 b1 k1 .char (5 : Int32) [(.int r_3), (.int r_7), (.int (nar .char r_11)), (.int 0), (.int 0)] (.int 0) := Arv.set Ar12 q12 Sz12 Nn12 Hs12 Gs12 (fits_nar_char _) W12 2 rfl (Nat.le_of_ble_eq_true rfl)
  have Vn12 : Arv Z h12 b1 k1 .char (5 : Int32) [(.int r_3), (.int r_7), (.int r_11), (.int 0), (.int 0)] (.int 0) := by have q := V12; rw [own_nr hok_11] at q; exact q
  have N12 := Fr.snoc X12 N11 g_b1
  have O_12 := O_8.wr W12 g_b1
  refine GoesW.step (B := T12.setTop (mkF m 24 #[.val (.int i0), .val (.int i1), .val (.int i2), .val (.int i3), .val (.int i4), .val (.int i5), .unset, .unset, .unset, .unset, .unset, .unset, .unset] [(.ref b1)])) st12 ?_
  refine GoesW.step (fun _ k => pw_dup X12.here hx (hb hby at_24) rfl _ (pw_iconst X12.here hx (v := (3 : Int32)) (hb hby at_25) rfl _ (pw_iloadN X12.here hx (hb hby at_26) rfl _ k))) ?_
  obtain ⟨_, _, ⟨T15, qL15, qk15, qn15⟩, -, X15, ⟨Lc15, hQ15, ql15, qy15, qz15⟩, st15⟩ := Jvm.LawKit.callS X12 hx (y := (⟨"com/example/partwright/partwright/reader/FormPartLastPathComponentPinLaw", "ch", "(I)C"⟩ : MethodName)) hown (mvT hZ (own_w1 hw)) (mvT hZ (own_w2 hw)) (mvT hZ (own_w3 hw)) (mvT hZ (own_w4 hw)) (by decide) (backOf (W := 3) (rm1 l Z a0 hw [] i3 h12 n0 O_12 ) hZ (own_w4 hw) (own_w3 hw) (by decide) (by decide)) (g := (mkF m 27 #[.val (.int i0), .val (.int i1), .val (.int i2), .val (.int i3), .val (.int i4), .val (.int i5), .unset, .unset, .unset, .unset, .unset, .unset, .unset] [(.int i3), (.int 3), (.ref b1), (.ref b1)])) rfl (by rw [hml]; rfl) (argsL := [(.int i3)]) (rest := [(.int 3), (.ref b1), (.ref b1)]) (lenOf pd_21 rfl) rfl (by show 2 * 0 + _ ≤ _; exact Nat.le_of_eq rfl) (hb hby at_27) (fun _ _ => ⟨rfl, e12, (by decide : 1 + 0 ≤ _), (by decide : 5 + 0 ≤ _)⟩)
  dsimp only [Pt.U, Pt.locs, Pt.cells, Pt.slots] at X15 ql15 qy15 qz15 st15 hQ15
  rw [ql15, qy15, qz15] at X15
  obtain ⟨r_15, rfl, hok_15, Nq15, eh15⟩ := hQ15
  have N15 := Fr.app N12 Nq15
  refine GoesW.step (B := T15.setTop (mkF m 30 #[.val (.int i0), .val (.int i1), .val (.int i2), .val (.int i3), .val (.int i4), .val (.int i5), .unset, .unset, .unset, .unset, .unset, .unset, .unset] [(.int r_15), (.int 3), (.ref b1), (.ref b1)])) st15 ?_
  obtain ⟨c16, Ar16, q16, Sz16, Nn16, Hs16, Gs16⟩ := id Vn12
  have hin16 : ¬ ((3 : Int32) < 0 ∨ c16.slots.size ≤ ((3 : Int32)).toNatClampNeg) := inb_of Sz16 ⟨by decide, by decide⟩
  obtain ⟨T16, h16, X16, e16, W16, st16⟩ := stC X15 hx hZ eh15 Ar16 (j := (3 : Int32)) hin16 (g := (mkF m 30 #[.val (.int i0), .val (.int i1), .val (.int i2), .val (.int i3), .val (.int i4), .val (.int i5), .unset, .unset, .unset, .unset, .unset, .unset, .unset] [(.int r_15), (.int 3), (.ref b1), (.ref b1)])) rfl rfl (hb hby at_30)
  have Sf17 := Safe.wr W16 Sf13 CH14.1 Sf13
  have CH18 := CH14.trans (CHr.wr W16 Sf13 CH14.1)
  have V16 : Arv Z h16 b1 k1 .char (5 : Int32) [(.int r_3), (.int r_7), (.int r_11), (.int (nar .char r_15)), (.int 0)] (.int 0) := Arv.set Ar16 q16 Sz16 Nn16 Hs16 Gs16 (fits_nar_char _) W16 3 rfl (Nat.le_of_ble_eq_true rfl)
  have Vn16 : Arv Z h16 b1 k1 .char (5 : Int32) [(.int r_3), (.int r_7), (.int r_11), (.int r_15), (.int 0)] (.int 0) := by have q := V16; rw [own_nr hok_15] at q; exact q
  have N16 := Fr.snoc X16 N15 g_b1
  have O_16 := O_12.wr W16 g_b1
  refine GoesW.step (B := T16.setTop (mkF m 31 #[.val (.int i0), .val (.int i1), .val (.int i2), .val (.int i3), .val (.int i4), .val (.int i5), .unset, .unset, .unset, .unset, .unset, .unset, .unset] [(.ref b1)])) st16 ?_
  refine GoesW.step (fun _ k => pw_dup X16.here hx (hb hby at_31) rfl _ (pw_iconst X16.here hx (v := (4 : Int32)) (hb hby at_32) rfl _ (pw_iload X16.here hx (hb hby at_33) rfl _ k))) ?_
  obtain ⟨_, _, ⟨T19, qL19, qk19, qn19⟩, -, X19, ⟨Lc19, hQ19, ql19, qy19, qz19⟩, st19⟩ := Jvm.LawKit.callS X16 hx (y := (⟨"com/example/partwright/partwright/reader/FormPartLastPathComponentPinLaw", "ch", "(I)C"⟩ : MethodName)) hown (mvT hZ (own_w1 hw)) (mvT hZ (own_w2 hw)) (mvT hZ (own_w3 hw)) (mvT hZ (own_w4 hw)) (by decide) (backOf (W := 3) (rm1 l Z a0 hw [] i4 h16 n0 O_16 ) hZ (own_w4 hw) (own_w3 hw) (by decide) (by decide)) (g := (mkF m 35 #[.val (.int i0), .val (.int i1), .val (.int i2), .val (.int i3), .val (.int i4), .val (.int i5), .unset, .unset, .unset, .unset, .unset, .unset, .unset] [(.int i4), (.int 4), (.ref b1), (.ref b1)])) rfl (by rw [hml]; rfl) (argsL := [(.int i4)]) (rest := [(.int 4), (.ref b1), (.ref b1)]) (lenOf pd_21 rfl) rfl (by show 2 * 0 + _ ≤ _; exact Nat.le_of_eq rfl) (hb hby at_35) (fun _ _ => ⟨rfl, e16, (by decide : 1 + 0 ≤ _), (by decide : 5 + 0 ≤ _)⟩)
  dsimp only [Pt.U, Pt.locs, Pt.cells, Pt.slots] at X19 ql19 qy19 qz19 st19 hQ19
  rw [ql19, qy19, qz19] at X19
  obtain ⟨r_19, rfl, hok_19, Nq19, eh19⟩ := hQ19
  have N19 := Fr.app N16 Nq19
  refine GoesW.step (B := T19.setTop (mkF m 38 #[.val (.int i0), .val (.int i1), .val (.int i2), .val (.int i3), .val (.int i4), .val (.int i5), .unset, .unset, .unset, .unset, .unset, .unset, .unset] [(.int r_19), (.int 4), (.ref b1), (.ref b1)])) st19 ?_
  obtain ⟨c20, Ar20, q20, Sz20, Nn20, Hs20, Gs20⟩ := id Vn16
  have hin20 : ¬ ((4 : Int32) < 0 ∨ c20.slots.size ≤ ((4 : Int32)).toNatClampNeg) := inb_of Sz20 ⟨by decide, by decide⟩
  obtain ⟨T20, h20, X20, e20, W20, st20⟩ := stC X19 hx hZ eh19 Ar20 (j := (4 : Int32)) hin20 (g := (mkF m 38 #[.val (.int i0), .val (.int i1), .val (.int i2), .val (.int i3), .val (.int i4), .val (.int i5), .unset, .unset, .unset, .unset, .unset, .unset, .unset] [(.int r_19), (.int 4), (.ref b1), (.ref b1)])) rfl rfl (hb hby at_38)
  have Sf21 := Safe.wr W20 Sf17 CH18.1 Sf17
  have CH22 := CH18.trans (CHr.wr W20 Sf17 CH18.1)
  have V20 : Arv Z h20 b1 k1 .char (5 : Int32) [(.int r_3), (.int r_7), (.int r_11), (.int r_15), (.int (nar .char r_19))] (.int 0) := Arv.set Ar20 q20 Sz20 Nn20 Hs20 Gs20 (fits_nar_char _) W20 4 rfl (Nat.le_of_ble_eq_true rfl)
  have Vn20 : Arv Z h20 b1 k1 .char (5 : Int32) [(.int r_3), (.int r_7), (.int r_11), (.int r_15), (.int r_19)] (.int 0) := by have q := V20; rw [own_nr hok_19] at q; exact q
  have N20 := Fr.snoc X20 N19 g_b1
  have O_20 := O_16.wr W20 g_b1
  refine GoesW.step (B := T20.setTop (mkF m 39 #[.val (.int i0), .val (.int i1), .val (.int i2), .val (.int i3), .val (.int i4), .val (.int i5), .unset, .unset, .unset, .unset, .unset, .unset, .unset] [(.ref b1)])) st20 ?_
  refine GoesW.step (fun _ k => pw_astore X20.here hx (l' := #[.val (.int i0), .val (.int i1), .val (.int i2), .val (.int i3), .val (.int i4), .val (.int i5), .val (.ref b1), .unset, .unset, .unset, .unset, .unset, .unset]) (hb hby at_39) rfl rfl _ (pw_iload X20.here hx (hb hby at_41) rfl _ (pw_bipush X20.here hx (v := (7 : Int32)) (hb hby at_43) rfl _ (pw_iand X20.here hx (hb hby at_45) _ (pw_bipush X20.here hx (v := (6 : Int32)) (hb hby at_46) rfl _ k))))) ?_
  refine GoesW.step (B := T20.setTop (mkF m 49 #[.val (.int i0), .val (.int i1), .val (.int i2), .val (.int i3), .val (.int i4), .val (.int i5), .val (.ref b1), .unset, .unset, .unset, .unset, .unset, .unset] [(.int ((i5 &&& (7 : Int32)) % (6 : Int32)))])) (fun _ k => iremM X20 hx rfl (hb hby at_48) rfl (by decide) k) ?_
  obtain ⟨nv, hnv⟩ : ∃ z, z = ((i5 &&& (7 : Int32)) % (6 : Int32)) := ⟨_, rfl⟩
  rw [← hnv]
  rcases own_n6 hnv with rfl | rfl | rfl | rfl | rfl | rfl
  · refine GoesW.step (fun _ k => pw_istore X20.here hx (l' := #[.val (.int i0), .val (.int i1), .val (.int i2), .val (.int i3), .val (.int i4), .val (.int i5), .val (.ref b1), .val (.int 0), .unset, .unset, .unset, .unset, .unset]) (hb hby at_49) rfl _ (pw_iload X20.here hx (hb hby at_51) rfl _ (pw_ifNo X20.here hx (hb hby at_53) ((if0 _ _).trans (teq (by decide)).2) _ (pw_iconst X20.here hx (v := (0 : Int32)) (hb hby at_56) rfl _ k)))) ?_
    obtain ⟨T23, h23, k23, X23, e23, E23, A23, st23⟩ := newP (aty := .char) X20 hx hZ (own_w0 hw) e20 (g := (mkF m 57 #[.val (.int i0), .val (.int i1), .val (.int i2), .val (.int i3), .val (.int i4), .val (.int i5), .val (.ref b1), .val (.int 0), .unset, .unset, .unset, .unset, .unset] [(.int 0)])) rfl (hb hby at_57) rfl (by decide) (cap := 0) (by decide) (by decide) (by decide) (by decide)
    obtain ⟨b23, g23⟩ : ∃ z, z = h20.size := ⟨_, rfl⟩
    rw [← g23] at A23 st23
    have ne_b1_b23 : b1 ≠ b23 := Nat.ne_of_lt (Nat.lt_of_lt_of_le Vn20.lt (Nat.le_of_eq g23.symm))
    have g_b23 : n0 ≤ b23 := Nat.le_trans (own_z O_20) (Nat.le_of_eq g23.symm)
    have Sf_b23 := Safe.ext E23 CH22.1 (Safe.new (Nat.le_of_eq g23.symm))
    have Sf24 := Safe.ext E23 CH22.1 Sf21
    have CH25 := CH22.trans (CHr.ext E23 CH22.1)
    have O_23 := O_20.ext E23
    have V_b23 : Arv Z h23 b23 k23 .char (0 : Int32) [] (.int 0) := (Arv.new A23 (by decide)).pad (pad_rep [] (.int 0) 0)
    refine GoesW.step (B := T23.setTop (mkF m 59 #[.val (.int i0), .val (.int i1), .val (.int i2), .val (.int i3), .val (.int i4), .val (.int i5), .val (.ref b1), .val (.int 0), .unset, .unset, .unset, .unset, .unset] [(.ref b23)])) st23 ?_
    refine GoesW.step (fun _ k => pw_astore X23.here hx (l' := #[.val (.int i0), .val (.int i1), .val (.int i2), .val (.int i3), .val (.int i4), .val (.int i5), .val (.ref b1), .val (.int 0), .val (.ref b23), .unset, .unset, .unset, .unset]) (hb hby at_59) rfl rfl _ (pw_goto X23.here hx (pc' := 230) (hb hby at_61) (by decide) (by decide) _ k)) ?_
    obtain ⟨T26, h26, X26, e26, E26, A26, D26, -, st26⟩ := newO X23 hx hZ hown (own_w5 hw) (own_w6 hw) (own_w7 hw) e23 (g := (mkF m 230 #[.val (.int i0), .val (.int i1), .val (.int i2), .val (.int i3), .val (.int i4), .val (.int i5), .val (.ref b1), .val (.int 0), .val (.ref b23), .unset, .unset, .unset, .unset] [])) rfl (hb hby at_230) (by decide) (by decide)
    obtain ⟨b26, g26⟩ : ∃ z, z = h23.size := ⟨_, rfl⟩
    rw [← g26] at A26 D26 st26
    have f27 := (Vn20.ext E23)
    have ne_b1_b26 : b1 ≠ b26 := Nat.ne_of_lt (Nat.lt_of_lt_of_le f27.lt (Nat.le_of_eq g26.symm))
    have ne_b23_b26 : b23 ≠ b26 := Nat.ne_of_lt (Nat.lt_of_lt_of_le V_b23.lt (Nat.le_of_eq g26.symm))
    have g_b26 : n0 ≤ b26 := Nat.le_trans (own_z O_23) (Nat.le_of_eq g26.symm)
    have Sf_b26 := Safe.ext E26 CH25.1 (Safe.new (Nat.le_of_eq g26.symm))
    have Sf28 := Safe.ext E26 CH25.1 Sf24
    have Sf29 := Safe.ext E26 CH25.1 Sf_b23
    have CH30 := CH25.trans (CHr.ext E26 CH25.1)
    have O_26 := O_23.ext E26
    have F26_coder : Fld Z h26 b26 "java/lang/String" "coder" "B" (.int 0) := D26 (Or.inr (own_w31 hw)) (ty := .byte) (by decide)
    have F26_value : Fld Z h26 b26 "java/lang/String" "value" "[B" .null := D26 (Or.inr (own_w33 hw)) (ty := (.array .byte)) (by decide)
    refine GoesW.step (B := T26.setTop (mkF m 233 #[.val (.int i0), .val (.int i1), .val (.int i2), .val (.int i3), .val (.int i4), .val (.int i5), .val (.ref b1), .val (.int 0), .val (.ref b23), .unset, .unset, .unset, .unset] [(.ref b26)])) st26 ?_
    refine GoesW.step (fun _ k => pw_dup X26.here hx (hb hby at_233) rfl _ (pw_aload X26.here hx (hb hby at_234) rfl rfl _ k)) ?_
    have f32 := (V_b23.ext E26)
    have f33 := S_COMPACT_STRINGS.ext O_26.2
    obtain ⟨_, vw31, ⟨T31, qL31, qk31, qn31⟩, -, Xr31, S231, sz31, ⟨Lc31, hQ31, ql31, qy31, qz31, Hc31⟩, st31⟩ := X26.specialBackS hx (y := (⟨"java/lang/String", "<init>", "([C)V"⟩ : MethodName)) rfl hown (mvT hZ (own_w8 hw)) (mvT hZ (own_w9 hw)) (mvT hZ (own_w10 hw)) (by decide) (backOfSHs (W := 1) (rmSI_0 l Z a0 hw [] b26 b23 k23 cs h26 n0 O_26 A26 g_b26 F26_value F26_coder f32 f33 hcs) hZ (own_w10 hw) (own_w7 hw) (by decide) (by decide) (own_EW hw) CH30.1 A26.lt Sf_b26) (g := (mkF m 236 #[.val (.int i0), .val (.int i1), .val (.int i2), .val (.int i3), .val (.int i4), .val (.int i5), .val (.ref b1), .val (.int 0), .val (.ref b23), .unset, .unset, .unset, .unset] [(.ref b23), (.ref b26), (.ref b26)])) rfl (by rw [hml]; rfl) (Steps.refl _) (a := b26) (argsL := [(.ref b23)]) (rest := [(.ref b26)]) (lenOf pd_22 rfl) rfl (by show 2 * 0 + _ ≤ _; exact Nat.le_of_eq rfl) (hb hby at_236) (fun _ _ => ⟨rfl, e26, (by decide : 3 + 4 ≤ _), (by decide : 9 + 8 ≤ _)⟩)
    dsimp only [Pt.U, Pt.locs, Pt.cells, Pt.slots] at Xr31 S231 sz31 ql31 qy31 qz31 st31 hQ31 Hc31
    rw [ql31, qy31, qz31] at Xr31
    obtain ⟨X31, hS31, hZ31, hown31⟩ := rebS hS0 (by rw [e26]; exact (Nat.le_trans (Nat.le_trans (Nat.le_trans (Nat.le_trans (Nat.le_trans (Nat.le_trans (Nat.le_trans (Nat.le_trans (Nat.le_refl _) E1.1) (Nat.le_of_eq W4.size.symm)) (Nat.le_of_eq W8.size.symm)) (Nat.le_of_eq W12.size.symm)) (Nat.le_of_eq W16.size.symm)) (Nat.le_of_eq W20.size.symm)) E23.1) E26.1)) Xr31 S231 sz31 hZ hown
    have CHc31 := CH30.trans Hc31
    obtain ⟨rfl, Nq31, Kp31, Ex31, sv31, sk31, Fsv31, Fsc31, Vsv31⟩ := hQ31
    have f35 := (f27.ext E26)
    have Sf34 := CHr.safe Hc31 f35.lt Sf28
    have Sf36 := CHr.safe Hc31 f32.lt Sf29
    have Sf37 := CHr.safe Hc31 A26.lt Sf_b26
    have O_31 := O_26.keep Kp31 (allS g_b26 all0)
    have N31 := Fr.app N20 Nq31
    refine GoesW.via (B := T31.setTop (mkF m 239 #[.val (.int i0), .val (.int i1), .val (.int i2), .val (.int i3), .val (.int i4), .val (.int i5), .val (.ref b1), .val (.int 0), .val (.ref b23), .unset, .unset, .unset, .unset] [(.ref b26)])) st31 ?_
    refine GoesW.step (fun _ k => pw_astore X31.here hx (l' := #[.val (.int i0), .val (.int i1), .val (.int i2), .val (.int i3), .val (.int i4), .val (.int i5), .val (.ref b1), .val (.int 0), .val (.ref b23), .val (.ref b26), .unset, .unset, .unset]) (hb hby at_239) rfl rfl _ (pw_aload X31.here hx (hb hby at_241) rfl rfl _ k)) ?_
    have f39 := S_COMPACT_STRINGS.ext O_31.2
    obtain ⟨_, vw38, ⟨T38, qL38, qk38, qn38⟩, -, Xr38, S238, sz38, ⟨Lc38, hQ38, ql38, qy38, qz38, Hc38⟩, st38⟩ := callSS X31 hx (y := (⟨"com/example/partwright/partwright/reader/FormPart", "lastPathComponent", "(Ljava/lang/String;)Ljava/lang/String;"⟩ : MethodName)) hown31 (mvT hZ31 (own_w34 hw)) (mvT hZ31 (own_w35 hw)) (mvT hZ31 (own_w36 hw)) (mvT hZ31 (own_w37 hw)) (by decide) (backOfSH (W := 0) (rmLP l Z a0 hw [] b26 sv31 sk31 (0 : Int32) [] cs fm T31.heap n0 O_31 FS Ex31 Fsc31 Fsv31 Vsv31 rfl (by decide)) hZ31 (own_w37 hw) (own_w36 hw) (by decide) (by decide) (own_EW hw) CHc31.1) (g := (mkF m 243 #[.val (.int i0), .val (.int i1), .val (.int i2), .val (.int i3), .val (.int i4), .val (.int i5), .val (.ref b1), .val (.int 0), .val (.ref b23), .val (.ref b26), .unset, .unset, .unset] [(.ref b26)])) rfl (by rw [hml]; rfl) (argsL := [(.ref b26)]) (rest := []) (lenOf pd_23 rfl) rfl (by show 2 * 0 + _ ≤ _; exact Nat.le_of_eq rfl) (hb hby at_243) (fun _ _ => ⟨rfl, rfl, (by decide : 7 + 2 ≤ _), (by decide : 17 + 9 ≤ _)⟩)
    dsimp only [Pt.U, Pt.locs, Pt.cells, Pt.slots] at Xr38 S238 sz38 ql38 qy38 qz38 st38 hQ38 Hc38
    rw [ql38, qy38, qz38] at Xr38
    obtain ⟨X38, hS38, hZ38, hown38⟩ := rebS hS31 (by exact (Nat.le_refl _)) Xr38 S238 sz38 hZ31 hown31
    have CHc38 := CHc31.trans Hc38
    obtain ⟨r38, vb38, kv38, mm38, bb38, rfl, Nq38, Kp38, hbb38, hmm38, Er38, Fv38, Fc38, Vr38⟩ := hQ38
    have f41 := (f35.keep Kp31 (ninS ne_b1_b26 nin0))
    have Sf40 := CHr.safe Hc38 f41.lt Sf34
    have f43 := (f32.keep Kp31 (ninS ne_b23_b26 nin0))
    have Sf42 := CHr.safe Hc38 f43.lt Sf36
    have Sf44 := CHr.safe Hc38 Ex31.lt Sf37
    have O_38 := O_31.keep Kp38 all0
    have N38 := Fr.app N31 Nq38
    refine GoesW.via (B := T38.setTop (mkF m 246 #[.val (.int i0), .val (.int i1), .val (.int i2), .val (.int i3), .val (.int i4), .val (.int i5), .val (.ref b1), .val (.int 0), .val (.ref b23), .val (.ref b26), .unset, .unset, .unset] [(.ref r38)])) st38 ?_
    refine GoesW.step (fun _ k => pw_astore X38.here hx (l' := #[.val (.int i0), .val (.int i1), .val (.int i2), .val (.int i3), .val (.int i4), .val (.int i5), .val (.ref b1), .val (.int 0), .val (.ref b23), .val (.ref b26), .val (.ref r38), .unset, .unset]) (hb hby at_246) rfl rfl _ (pw_iconst X38.here hx (v := (-1 : Int32)) (hb hby at_248) rfl _ (pw_istore X38.here hx (l' := #[.val (.int i0), .val (.int i1), .val (.int i2), .val (.int i3), .val (.int i4), .val (.int i5), .val (.ref b1), .val (.int 0), .val (.ref b23), .val (.ref b26), .val (.ref r38), .val (.int (-1)), .unset]) (hb hby at_249) rfl _ (pw_iload X38.here hx (hb hby at_251) rfl _ (pw_ifYes X38.here hx (pc' := 269) (hb hby at_253) ((if0 _ _).trans (flt (by decide)).2.2.2) (by decide) (by decide) _ (pw_iload X38.here hx (hb hby at_269) rfl _ k)))))) ?_
    refine GoesW.step (fun _ k => pw_iconst X38.here hx (v := (1 : Int32)) (hb hby at_271) rfl _ (pw_icmpYes X38.here hx (pc' := 288) (hb hby at_272) (flt (by decide)).2.2.2 (by decide) (by decide) _ (pw_iload X38.here hx (hb hby at_288) rfl _ (pw_iconst X38.here hx (v := (2 : Int32)) (hb hby at_290) rfl _ (pw_icmpYes X38.here hx (pc' := 307) (hb hby at_291) (flt (by decide)).2.2.2 (by decide) (by decide) _ (pw_iload X38.here hx (hb hby at_307) rfl _ k)))))) ?_
    refine GoesW.step (fun _ k => pw_iconst X38.here hx (v := (3 : Int32)) (hb hby at_309) rfl _ (pw_icmpYes X38.here hx (pc' := 326) (hb hby at_310) (flt (by decide)).2.2.2 (by decide) (by decide) _ (pw_iload X38.here hx (hb hby at_326) rfl _ (pw_iconst X38.here hx (v := (4 : Int32)) (hb hby at_328) rfl _ (pw_icmpYes X38.here hx (pc' := 345) (hb hby at_329) (flt (by decide)).2.2.2 (by decide) (by decide) _ k))))) ?_
    have hke : (-1 : Int32) = own_k0 := rfl
    have heq : own_max (own_lix (47 : Int32) []) (own_lix (92 : Int32) []) = own_k0 := own_eq0 
    have hkb : -1 ≤ ((-1 : Int32) : Int32).toInt ∧ ((-1 : Int32) : Int32).toInt < 0 := by rw [hke, ← heq]; exact own_mb0 47 92
    have hbk : bb38 = (-1 : Int32) + 1 := by rw [hbb38, heq, hke]
    have hme := own_m0 hkb hbk hmm38
    refine GoesW.step (fun _ k => pw_iload X38.here hx (hb hby at_345) rfl _ (pw_iload X38.here hx (hb hby at_347) rfl _ k)) ?_
    refine GoesW.step (B := T38.setTop (mkF m 350 #[.val (.int i0), .val (.int i1), .val (.int i2), .val (.int i3), .val (.int i4), .val (.int i5), .val (.ref b1), .val (.int 0), .val (.ref b23), .val (.ref b26), .val (.ref r38), .val (.int (-1)), .unset] [(.int 1)])) (fun _ k => XS.isub X38.here hx rfl (hb hby at_349) rfl k) ?_
    refine GoesW.step (fun _ k => pw_iconst X38.here hx (v := (1 : Int32)) (hb hby at_350) rfl _ k) ?_
    refine GoesW.step (B := T38.setTop (mkF m 352 #[.val (.int i0), .val (.int i1), .val (.int i2), .val (.int i3), .val (.int i4), .val (.int i5), .val (.ref b1), .val (.int 0), .val (.ref b23), .val (.ref b26), .val (.ref r38), .val (.int (-1)), .unset] [(.int 0)])) (fun _ k => XS.isub X38.here hx rfl (hb hby at_351) rfl k) ?_
    refine GoesW.step (fun _ k => pw_istore X38.here hx (l' := #[.val (.int i0), .val (.int i1), .val (.int i2), .val (.int i3), .val (.int i4), .val (.int i5), .val (.ref b1), .val (.int 0), .val (.ref b23), .val (.ref b26), .val (.ref r38), .val (.int (-1)), .val (.int 0)]) (hb hby at_352) rfl _ (pw_aload X38.here hx (hb hby at_354) rfl rfl _ k)) ?_
    have f46 := S_COMPACT_STRINGS.ext O_38.2
    obtain ⟨cq45, kq45, qa45, qb45, qc45⟩ := isOf hZ38 rfl Er38
    obtain ⟨_, _, ⟨T45, qL45, qk45, qn45⟩, -, X45, ⟨Lc45, hQ45, ql45, qy45, qz45⟩, st45⟩ := X38.virtualBack hx (y := (⟨"java/lang/String", "length", "()I"⟩ : MethodName)) (z := (⟨"java/lang/String", "length", "()I"⟩ : MethodName)) hown38 (mvT hZ38 (own_w120 hw)) (mvT hZ38 (own_w44 hw)) (notFace_of_selects (args := #[]) (mvT hZ38 (own_w46 hw))) (mvT hZ38 (own_w46 hw)) (mvT hZ38 (own_w45 hw)) (by decide) (backOf (W := 0) (rm10 l Z a0 hw [] r38 vb38 kv38 mm38 (own_sub [] bb38 mm38) cs T38.heap n0 O_38 f46 hcs Er38 Fc38 Fv38 Vr38) hZ38 (own_w47 hw) (own_w7 hw) (by decide) (by decide)) qa45 qc45 (g := (mkF m 356 #[.val (.int i0), .val (.int i1), .val (.int i2), .val (.int i3), .val (.int i4), .val (.int i5), .val (.ref b1), .val (.int 0), .val (.ref b23), .val (.ref b26), .val (.ref r38), .val (.int (-1)), .val (.int 0)] [(.ref r38)])) rfl (by rw [hml]; rfl) (Steps.refl _) (argsL := []) (rest := []) (lenOf pd_13 rfl) rfl (by show 2 * 0 + _ ≤ _; exact Nat.le_of_eq rfl) (hb hby at_356) (fun _ _ => ⟨rfl, rfl, (by decide : 9 + 0 ≤ _), (by decide : 26 + 0 ≤ _)⟩)
    dsimp only [Pt.U, Pt.locs, Pt.cells, Pt.slots] at X45 ql45 qy45 qz45 st45 hQ45
    rw [ql45, qy45, qz45] at X45
    obtain ⟨rfl, Nq45, eh45⟩ := hQ45
    have N45 := Fr.app N38 Nq45
    refine GoesW.via (B := T45.setTop (mkF m 359 #[.val (.int i0), .val (.int i1), .val (.int i2), .val (.int i3), .val (.int i4), .val (.int i5), .val (.ref b1), .val (.int 0), .val (.ref b23), .val (.ref b26), .val (.ref r38), .val (.int (-1)), .val (.int 0)] [(.int mm38)])) st45 ?_
    refine GoesW.step (fun _ k => pw_iload X45.here hx (hb hby at_359) rfl _ (pw_icmpYes X45.here hx (pc' := 366) (hb hby at_361) (teq (by rw [hme]; decide)).1 (by decide) (by decide) _ (pw_aload X45.here hx (hb hby at_366) rfl rfl _ (pw_iconst X45.here hx (v := (0 : Int32)) (hb hby at_368) rfl _ (pw_iload X45.here hx (hb hby at_369) rfl _ (pw_aload X45.here hx (hb hby at_371) rfl rfl _ k)))))) ?_
    refine GoesW.step (fun _ k => pw_iload X45.here hx (hb hby at_373) rfl _ (pw_iconst X45.here hx (v := (1 : Int32)) (hb hby at_375) rfl _ k)) ?_
    refine GoesW.step (B := T45.setTop (mkF m 377 #[.val (.int i0), .val (.int i1), .val (.int i2), .val (.int i3), .val (.int i4), .val (.int i5), .val (.ref b1), .val (.int 0), .val (.ref b23), .val (.ref b26), .val (.ref r38), .val (.int (-1)), .val (.int 0)] [(.int 0), (.ref b1), (.int 0), (.int 0), (.ref r38)])) (fun _ k => XS.iadd X45.here hx rfl (hb hby at_376) rfl k) ?_
    have f48 := (f41.keep Kp38 nin0)
    obtain ⟨_, _, ⟨T47, qL47, qk47, qn47⟩, -, X47, ⟨Lc47, hQ47, ql47, qy47, qz47⟩, st47⟩ := Jvm.LawKit.callS X45 hx (y := (⟨"com/example/partwright/partwright/reader/FormPartLastPathComponentPinLaw", "at", "(Ljava/lang/String;II[CI)Z"⟩ : MethodName)) hown38 (mvT hZ38 (own_w121 hw)) (mvT hZ38 (own_w122 hw)) (mvT hZ38 (own_w3 hw)) (mvT hZ38 (own_w123 hw)) (by decide) (backOf (W := 0) (rmAt l Z a0 hw [] r38 vb38 kv38 mm38 (own_sub [] bb38 mm38) b1 k1 r_3 r_7 r_11 r_15 r_19 (0 : Int32) (0 : Int32) (0 : Int32) cs fm T38.heap n0 O_38 FS Er38 Fc38 Fv38 Vr38 f48 (fun h => absurd h (by decide))) hZ38 (own_w123 hw) (own_w3 hw) (by decide) (by decide)) (g := (mkF m 377 #[.val (.int i0), .val (.int i1), .val (.int i2), .val (.int i3), .val (.int i4), .val (.int i5), .val (.ref b1), .val (.int 0), .val (.ref b23), .val (.ref b26), .val (.ref r38), .val (.int (-1)), .val (.int 0)] [(.int 0), (.ref b1), (.int 0), (.int 0), (.ref r38)])) rfl (by rw [hml]; rfl) (argsL := [(.ref r38), (.int 0), (.int 0), (.ref b1), (.int 0)]) (rest := []) (lenOf pd_24 rfl) rfl (by show 2 * 0 + _ ≤ _; exact Nat.le_of_eq rfl) (hb hby at_377) (fun _ _ => ⟨rfl, eh45, (by decide : 9 + 0 ≤ _), (by decide : 26 + 0 ≤ _)⟩)
    dsimp only [Pt.U, Pt.locs, Pt.cells, Pt.slots] at X47 ql47 qy47 qz47 st47 hQ47
    rw [ql47, qy47, qz47] at X47
    obtain ⟨rfl, Nq47, eh47⟩ := hQ47
    have N47 := Fr.app N45 Nq47
    refine GoesW.step (B := T47.setTop (mkF m 380 #[.val (.int i0), .val (.int i1), .val (.int i2), .val (.int i3), .val (.int i4), .val (.int i5), .val (.ref b1), .val (.int 0), .val (.ref b23), .val (.ref b26), .val (.ref r38), .val (.int (-1)), .val (.int 0)] [(.int 1)])) st47 ?_
    refine GoesW.step (fun _ k => pw_ifNo X47.here hx (hb hby at_380) ((if0 _ _).trans (feq (by decide)).1) _ (pw_aload X47.here hx (hb hby at_383) rfl rfl _ (pw_iconst X47.here hx (v := (1 : Int32)) (hb hby at_385) rfl _ (pw_iload X47.here hx (hb hby at_386) rfl _ (pw_aload X47.here hx (hb hby at_388) rfl rfl _ (pw_iload X47.here hx (hb hby at_390) rfl _ k)))))) ?_
    refine GoesW.step (fun _ k => pw_iconst X47.here hx (v := (1 : Int32)) (hb hby at_392) rfl _ k) ?_
    refine GoesW.step (B := T47.setTop (mkF m 394 #[.val (.int i0), .val (.int i1), .val (.int i2), .val (.int i3), .val (.int i4), .val (.int i5), .val (.ref b1), .val (.int 0), .val (.ref b23), .val (.ref b26), .val (.ref r38), .val (.int (-1)), .val (.int 0)] [(.int 0), (.ref b1), (.int 0), (.int 1), (.ref r38)])) (fun _ k => XS.iadd X47.here hx rfl (hb hby at_393) rfl k) ?_
    obtain ⟨_, _, ⟨T49, qL49, qk49, qn49⟩, -, X49, ⟨Lc49, hQ49, ql49, qy49, qz49⟩, st49⟩ := Jvm.LawKit.callS X47 hx (y := (⟨"com/example/partwright/partwright/reader/FormPartLastPathComponentPinLaw", "at", "(Ljava/lang/String;II[CI)Z"⟩ : MethodName)) hown38 (mvT hZ38 (own_w121 hw)) (mvT hZ38 (own_w122 hw)) (mvT hZ38 (own_w3 hw)) (mvT hZ38 (own_w123 hw)) (by decide) (backOf (W := 0) (rmAt l Z a0 hw [] r38 vb38 kv38 mm38 (own_sub [] bb38 mm38) b1 k1 r_3 r_7 r_11 r_15 r_19 (1 : Int32) (0 : Int32) (0 : Int32) cs fm T38.heap n0 O_38 FS Er38 Fc38 Fv38 Vr38 f48 (fun h => absurd h (by decide))) hZ38 (own_w123 hw) (own_w3 hw) (by decide) (by decide)) (g := (mkF m 394 #[.val (.int i0), .val (.int i1), .val (.int i2), .val (.int i3), .val (.int i4), .val (.int i5), .val (.ref b1), .val (.int 0), .val (.ref b23), .val (.ref b26), .val (.ref r38), .val (.int (-1)), .val (.int 0)] [(.int 0), (.ref b1), (.int 0), (.int 1), (.ref r38)])) rfl (by rw [hml]; rfl) (argsL := [(.ref r38), (.int 1), (.int 0), (.ref b1), (.int 0)]) (rest := []) (lenOf pd_24 rfl) rfl (by show 2 * 0 + _ ≤ _; exact Nat.le_of_eq rfl) (hb hby at_394) (fun _ _ => ⟨rfl, eh47, (by decide : 9 + 0 ≤ _), (by decide : 26 + 0 ≤ _)⟩)
    dsimp only [Pt.U, Pt.locs, Pt.cells, Pt.slots] at X49 ql49 qy49 qz49 st49 hQ49
    rw [ql49, qy49, qz49] at X49
    obtain ⟨rfl, Nq49, eh49⟩ := hQ49
    have N49 := Fr.app N47 Nq49
    refine GoesW.step (B := T49.setTop (mkF m 397 #[.val (.int i0), .val (.int i1), .val (.int i2), .val (.int i3), .val (.int i4), .val (.int i5), .val (.ref b1), .val (.int 0), .val (.ref b23), .val (.ref b26), .val (.ref r38), .val (.int (-1)), .val (.int 0)] [(.int 1)])) st49 ?_
    refine GoesW.step (fun _ k => pw_ifNo X49.here hx (hb hby at_397) ((if0 _ _).trans (feq (by decide)).1) _ (pw_aload X49.here hx (hb hby at_400) rfl rfl _ (pw_iconst X49.here hx (v := (2 : Int32)) (hb hby at_402) rfl _ (pw_iload X49.here hx (hb hby at_403) rfl _ (pw_aload X49.here hx (hb hby at_405) rfl rfl _ (pw_iload X49.here hx (hb hby at_407) rfl _ k)))))) ?_
    refine GoesW.step (fun _ k => pw_iconst X49.here hx (v := (1 : Int32)) (hb hby at_409) rfl _ k) ?_
    refine GoesW.step (B := T49.setTop (mkF m 411 #[.val (.int i0), .val (.int i1), .val (.int i2), .val (.int i3), .val (.int i4), .val (.int i5), .val (.ref b1), .val (.int 0), .val (.ref b23), .val (.ref b26), .val (.ref r38), .val (.int (-1)), .val (.int 0)] [(.int 0), (.ref b1), (.int 0), (.int 2), (.ref r38)])) (fun _ k => XS.iadd X49.here hx rfl (hb hby at_410) rfl k) ?_
    obtain ⟨_, _, ⟨T50, qL50, qk50, qn50⟩, -, X50, ⟨Lc50, hQ50, ql50, qy50, qz50⟩, st50⟩ := Jvm.LawKit.callS X49 hx (y := (⟨"com/example/partwright/partwright/reader/FormPartLastPathComponentPinLaw", "at", "(Ljava/lang/String;II[CI)Z"⟩ : MethodName)) hown38 (mvT hZ38 (own_w121 hw)) (mvT hZ38 (own_w122 hw)) (mvT hZ38 (own_w3 hw)) (mvT hZ38 (own_w123 hw)) (by decide) (backOf (W := 0) (rmAt l Z a0 hw [] r38 vb38 kv38 mm38 (own_sub [] bb38 mm38) b1 k1 r_3 r_7 r_11 r_15 r_19 (2 : Int32) (0 : Int32) (0 : Int32) cs fm T38.heap n0 O_38 FS Er38 Fc38 Fv38 Vr38 f48 (fun h => absurd h (by decide))) hZ38 (own_w123 hw) (own_w3 hw) (by decide) (by decide)) (g := (mkF m 411 #[.val (.int i0), .val (.int i1), .val (.int i2), .val (.int i3), .val (.int i4), .val (.int i5), .val (.ref b1), .val (.int 0), .val (.ref b23), .val (.ref b26), .val (.ref r38), .val (.int (-1)), .val (.int 0)] [(.int 0), (.ref b1), (.int 0), (.int 2), (.ref r38)])) rfl (by rw [hml]; rfl) (argsL := [(.ref r38), (.int 2), (.int 0), (.ref b1), (.int 0)]) (rest := []) (lenOf pd_24 rfl) rfl (by show 2 * 0 + _ ≤ _; exact Nat.le_of_eq rfl) (hb hby at_411) (fun _ _ => ⟨rfl, eh49, (by decide : 9 + 0 ≤ _), (by decide : 26 + 0 ≤ _)⟩)
    dsimp only [Pt.U, Pt.locs, Pt.cells, Pt.slots] at X50 ql50 qy50 qz50 st50 hQ50
    rw [ql50, qy50, qz50] at X50
    obtain ⟨rfl, Nq50, eh50⟩ := hQ50
    have N50 := Fr.app N49 Nq50
    refine GoesW.step (B := T50.setTop (mkF m 414 #[.val (.int i0), .val (.int i1), .val (.int i2), .val (.int i3), .val (.int i4), .val (.int i5), .val (.ref b1), .val (.int 0), .val (.ref b23), .val (.ref b26), .val (.ref r38), .val (.int (-1)), .val (.int 0)] [(.int 1)])) st50 ?_
    refine GoesW.step (fun _ k => pw_ifNo X50.here hx (hb hby at_414) ((if0 _ _).trans (feq (by decide)).1) _ (pw_aload X50.here hx (hb hby at_417) rfl rfl _ (pw_iconst X50.here hx (v := (3 : Int32)) (hb hby at_419) rfl _ (pw_iload X50.here hx (hb hby at_420) rfl _ (pw_aload X50.here hx (hb hby at_422) rfl rfl _ (pw_iload X50.here hx (hb hby at_424) rfl _ k)))))) ?_
    refine GoesW.step (fun _ k => pw_iconst X50.here hx (v := (1 : Int32)) (hb hby at_426) rfl _ k) ?_
    refine GoesW.step (B := T50.setTop (mkF m 428 #[.val (.int i0), .val (.int i1), .val (.int i2), .val (.int i3), .val (.int i4), .val (.int i5), .val (.ref b1), .val (.int 0), .val (.ref b23), .val (.ref b26), .val (.ref r38), .val (.int (-1)), .val (.int 0)] [(.int 0), (.ref b1), (.int 0), (.int 3), (.ref r38)])) (fun _ k => XS.iadd X50.here hx rfl (hb hby at_427) rfl k) ?_
    obtain ⟨_, _, ⟨T51, qL51, qk51, qn51⟩, -, X51, ⟨Lc51, hQ51, ql51, qy51, qz51⟩, st51⟩ := Jvm.LawKit.callS X50 hx (y := (⟨"com/example/partwright/partwright/reader/FormPartLastPathComponentPinLaw", "at", "(Ljava/lang/String;II[CI)Z"⟩ : MethodName)) hown38 (mvT hZ38 (own_w121 hw)) (mvT hZ38 (own_w122 hw)) (mvT hZ38 (own_w3 hw)) (mvT hZ38 (own_w123 hw)) (by decide) (backOf (W := 0) (rmAt l Z a0 hw [] r38 vb38 kv38 mm38 (own_sub [] bb38 mm38) b1 k1 r_3 r_7 r_11 r_15 r_19 (3 : Int32) (0 : Int32) (0 : Int32) cs fm T38.heap n0 O_38 FS Er38 Fc38 Fv38 Vr38 f48 (fun h => absurd h (by decide))) hZ38 (own_w123 hw) (own_w3 hw) (by decide) (by decide)) (g := (mkF m 428 #[.val (.int i0), .val (.int i1), .val (.int i2), .val (.int i3), .val (.int i4), .val (.int i5), .val (.ref b1), .val (.int 0), .val (.ref b23), .val (.ref b26), .val (.ref r38), .val (.int (-1)), .val (.int 0)] [(.int 0), (.ref b1), (.int 0), (.int 3), (.ref r38)])) rfl (by rw [hml]; rfl) (argsL := [(.ref r38), (.int 3), (.int 0), (.ref b1), (.int 0)]) (rest := []) (lenOf pd_24 rfl) rfl (by show 2 * 0 + _ ≤ _; exact Nat.le_of_eq rfl) (hb hby at_428) (fun _ _ => ⟨rfl, eh50, (by decide : 9 + 0 ≤ _), (by decide : 26 + 0 ≤ _)⟩)
    dsimp only [Pt.U, Pt.locs, Pt.cells, Pt.slots] at X51 ql51 qy51 qz51 st51 hQ51
    rw [ql51, qy51, qz51] at X51
    obtain ⟨rfl, Nq51, eh51⟩ := hQ51
    have N51 := Fr.app N50 Nq51
    refine GoesW.step (B := T51.setTop (mkF m 431 #[.val (.int i0), .val (.int i1), .val (.int i2), .val (.int i3), .val (.int i4), .val (.int i5), .val (.ref b1), .val (.int 0), .val (.ref b23), .val (.ref b26), .val (.ref r38), .val (.int (-1)), .val (.int 0)] [(.int 1)])) st51 ?_
    refine GoesW.step (fun _ k => pw_ifNo X51.here hx (hb hby at_431) ((if0 _ _).trans (feq (by decide)).1) _ (pw_aload X51.here hx (hb hby at_434) rfl rfl _ (pw_iconst X51.here hx (v := (4 : Int32)) (hb hby at_436) rfl _ (pw_iload X51.here hx (hb hby at_437) rfl _ (pw_aload X51.here hx (hb hby at_439) rfl rfl _ (pw_iload X51.here hx (hb hby at_441) rfl _ k)))))) ?_
    refine GoesW.step (fun _ k => pw_iconst X51.here hx (v := (1 : Int32)) (hb hby at_443) rfl _ k) ?_
    refine GoesW.step (B := T51.setTop (mkF m 445 #[.val (.int i0), .val (.int i1), .val (.int i2), .val (.int i3), .val (.int i4), .val (.int i5), .val (.ref b1), .val (.int 0), .val (.ref b23), .val (.ref b26), .val (.ref r38), .val (.int (-1)), .val (.int 0)] [(.int 0), (.ref b1), (.int 0), (.int 4), (.ref r38)])) (fun _ k => XS.iadd X51.here hx rfl (hb hby at_444) rfl k) ?_
    obtain ⟨_, _, ⟨T52, qL52, qk52, qn52⟩, -, X52, ⟨Lc52, hQ52, ql52, qy52, qz52⟩, st52⟩ := Jvm.LawKit.callS X51 hx (y := (⟨"com/example/partwright/partwright/reader/FormPartLastPathComponentPinLaw", "at", "(Ljava/lang/String;II[CI)Z"⟩ : MethodName)) hown38 (mvT hZ38 (own_w121 hw)) (mvT hZ38 (own_w122 hw)) (mvT hZ38 (own_w3 hw)) (mvT hZ38 (own_w123 hw)) (by decide) (backOf (W := 0) (rmAt l Z a0 hw [] r38 vb38 kv38 mm38 (own_sub [] bb38 mm38) b1 k1 r_3 r_7 r_11 r_15 r_19 (4 : Int32) (0 : Int32) (0 : Int32) cs fm T38.heap n0 O_38 FS Er38 Fc38 Fv38 Vr38 f48 (fun h => absurd h (by decide))) hZ38 (own_w123 hw) (own_w3 hw) (by decide) (by decide)) (g := (mkF m 445 #[.val (.int i0), .val (.int i1), .val (.int i2), .val (.int i3), .val (.int i4), .val (.int i5), .val (.ref b1), .val (.int 0), .val (.ref b23), .val (.ref b26), .val (.ref r38), .val (.int (-1)), .val (.int 0)] [(.int 0), (.ref b1), (.int 0), (.int 4), (.ref r38)])) rfl (by rw [hml]; rfl) (argsL := [(.ref r38), (.int 4), (.int 0), (.ref b1), (.int 0)]) (rest := []) (lenOf pd_24 rfl) rfl (by show 2 * 0 + _ ≤ _; exact Nat.le_of_eq rfl) (hb hby at_445) (fun _ _ => ⟨rfl, eh51, (by decide : 9 + 0 ≤ _), (by decide : 26 + 0 ≤ _)⟩)
    dsimp only [Pt.U, Pt.locs, Pt.cells, Pt.slots] at X52 ql52 qy52 qz52 st52 hQ52
    rw [ql52, qy52, qz52] at X52
    obtain ⟨rfl, Nq52, eh52⟩ := hQ52
    have N52 := Fr.app N51 Nq52
    refine GoesW.step (B := T52.setTop (mkF m 448 #[.val (.int i0), .val (.int i1), .val (.int i2), .val (.int i3), .val (.int i4), .val (.int i5), .val (.ref b1), .val (.int 0), .val (.ref b23), .val (.ref b26), .val (.ref r38), .val (.int (-1)), .val (.int 0)] [(.int 1)])) st52 ?_
    refine GoesW.step (fun _ k => pw_ifNo X52.here hx (hb hby at_448) ((if0 _ _).trans (feq (by decide)).1) _ (pw_iconst X52.here hx (v := (1 : Int32)) (hb hby at_451) rfl _ (pw_goto X52.here hx (pc' := 456) (hb hby at_452) (by decide) (by decide) _ k))) ?_
    exact GoesW.retN X52 hS38 (Nat.le_refl _) hx eh52 (t := .boolean) Bd.returns (by simp) hlk (hb hby at_456) (by decide) (by decide) (⟨rfl, N52⟩)
  · refine GoesW.step (fun _ k => pw_istore X20.here hx (l' := #[.val (.int i0), .val (.int i1), .val (.int i2), .val (.int i3), .val (.int i4), .val (.int i5), .val (.ref b1), .val (.int 1), .unset, .unset, .unset, .unset, .unset]) (hb hby at_49) rfl _ (pw_iload X20.here hx (hb hby at_51) rfl _ (pw_ifYes X20.here hx (pc' := 64) (hb hby at_53) ((if0 _ _).trans (feq (by decide)).2) (by decide) (by decide) _ (pw_iload X20.here hx (hb hby at_64) rfl _ (pw_iconst X20.here hx (v := (1 : Int32)) (hb hby at_66) rfl _ (pw_icmpNo X20.here hx (hb hby at_67) (teq (by decide)).2 _ k)))))) ?_
    refine GoesW.step (fun _ k => pw_iconst X20.here hx (v := (1 : Int32)) (hb hby at_70) rfl _ k) ?_
    obtain ⟨T53, h53, k53, X53, e53, E53, A53, st53⟩ := newP (aty := .char) X20 hx hZ (own_w0 hw) e20 (g := (mkF m 71 #[.val (.int i0), .val (.int i1), .val (.int i2), .val (.int i3), .val (.int i4), .val (.int i5), .val (.ref b1), .val (.int 1), .unset, .unset, .unset, .unset, .unset] [(.int 1)])) rfl (hb hby at_71) rfl (by decide) (cap := 1) (by decide) (by decide) (by decide) (by decide)
    obtain ⟨b53, g53⟩ : ∃ z, z = h20.size := ⟨_, rfl⟩
    rw [← g53] at A53 st53
    have ne_b1_b53 : b1 ≠ b53 := Nat.ne_of_lt (Nat.lt_of_lt_of_le Vn20.lt (Nat.le_of_eq g53.symm))
    have g_b53 : n0 ≤ b53 := Nat.le_trans (own_z O_20) (Nat.le_of_eq g53.symm)
    have Sf_b53 := Safe.ext E53 CH22.1 (Safe.new (Nat.le_of_eq g53.symm))
    have Sf54 := Safe.ext E53 CH22.1 Sf21
    have CH55 := CH22.trans (CHr.ext E53 CH22.1)
    have O_53 := O_20.ext E53
    have V_b53 : Arv Z h53 b53 k53 .char (1 : Int32) [(.int 0)] (.int 0) := (Arv.new A53 (by decide)).pad (pad_rep [] (.int 0) 1)
    refine GoesW.step (B := T53.setTop (mkF m 73 #[.val (.int i0), .val (.int i1), .val (.int i2), .val (.int i3), .val (.int i4), .val (.int i5), .val (.ref b1), .val (.int 1), .unset, .unset, .unset, .unset, .unset] [(.ref b53)])) st53 ?_
    refine GoesW.step (fun _ k => pw_dup X53.here hx (hb hby at_73) rfl _ (pw_iconst X53.here hx (v := (0 : Int32)) (hb hby at_74) rfl _ (pw_aload X53.here hx (hb hby at_75) rfl rfl _ (pw_iconst X53.here hx (v := (0 : Int32)) (hb hby at_77) rfl _ k)))) ?_
    have f56 := (Vn20.ext E53)
    obtain ⟨c57, Ar57, -, Sz57, Nn57, Hs57, -⟩ := id f56
    have hin57 : ¬ ((0 : Int32) < 0 ∨ c57.slots.size ≤ ((0 : Int32)).toNatClampNeg) := inb_of Sz57 ⟨by decide, by decide⟩
    refine GoesW.step (B := T53.setTop (mkF m 79 #[.val (.int i0), .val (.int i1), .val (.int i2), .val (.int i3), .val (.int i4), .val (.int i5), .val (.ref b1), .val (.int 1), .unset, .unset, .unset, .unset, .unset] [(.int r_3), (.int 0), (.ref b53), (.ref b53)])) (X53.caload hx (j := (0 : Int32)) (v := (.int r_3)) (by rw [e53]; exact Ar57.1) (State.isArrayOf_alike hZ.alike Ar57.2.1) Ar57.2.2 hin57 (Has.at Hs57 hin57 rfl) (g := (mkF m 78 #[.val (.int i0), .val (.int i1), .val (.int i2), .val (.int i3), .val (.int i4), .val (.int i5), .val (.ref b1), .val (.int 1), .unset, .unset, .unset, .unset, .unset] [(.int 0), (.ref b1), (.int 0), (.ref b53), (.ref b53)])) rfl rfl (hb hby at_78)) ?_
    obtain ⟨c58, Ar58, q58, Sz58, Nn58, Hs58, Gs58⟩ := id V_b53
    have hin58 : ¬ ((0 : Int32) < 0 ∨ c58.slots.size ≤ ((0 : Int32)).toNatClampNeg) := inb_of Sz58 ⟨by decide, by decide⟩
    obtain ⟨T58, h58, X58, e58, W58, st58⟩ := stC X53 hx hZ e53 Ar58 (j := (0 : Int32)) hin58 (g := (mkF m 79 #[.val (.int i0), .val (.int i1), .val (.int i2), .val (.int i3), .val (.int i4), .val (.int i5), .val (.ref b1), .val (.int 1), .unset, .unset, .unset, .unset, .unset] [(.int r_3), (.int 0), (.ref b53), (.ref b53)])) rfl rfl (hb hby at_79)
    have Sf59 := Safe.wr W58 Sf_b53 CH55.1 Sf54
    have Sf60 := Safe.wr W58 Sf_b53 CH55.1 Sf_b53
    have CH61 := CH55.trans (CHr.wr W58 Sf_b53 CH55.1)
    have V58 : Arv Z h58 b53 k53 .char (1 : Int32) [(.int (nar .char r_3))] (.int 0) := Arv.set Ar58 q58 Sz58 Nn58 Hs58 Gs58 (fits_nar_char _) W58 0 rfl (Nat.le_of_ble_eq_true rfl)
    have Vn58 : Arv Z h58 b53 k53 .char (1 : Int32) [(.int r_3)] (.int 0) := by have q := V58; rw [own_nr hok_3] at q; exact q
    have N58 := Fr.snoc X58 N20 g_b53
    have O_58 := O_53.wr W58 g_b53
    refine GoesW.step (B := T58.setTop (mkF m 80 #[.val (.int i0), .val (.int i1), .val (.int i2), .val (.int i3), .val (.int i4), .val (.int i5), .val (.ref b1), .val (.int 1), .unset, .unset, .unset, .unset, .unset] [(.ref b53)])) st58 ?_
    refine GoesW.step (fun _ k => pw_astore X58.here hx (l' := #[.val (.int i0), .val (.int i1), .val (.int i2), .val (.int i3), .val (.int i4), .val (.int i5), .val (.ref b1), .val (.int 1), .val (.ref b53), .unset, .unset, .unset, .unset]) (hb hby at_80) rfl rfl _ (pw_goto X58.here hx (pc' := 230) (hb hby at_82) (by decide) (by decide) _ k)) ?_
    obtain ⟨T62, h62, X62, e62, E62, A62, D62, -, st62⟩ := newO X58 hx hZ hown (own_w5 hw) (own_w6 hw) (own_w7 hw) e58 (g := (mkF m 230 #[.val (.int i0), .val (.int i1), .val (.int i2), .val (.int i3), .val (.int i4), .val (.int i5), .val (.ref b1), .val (.int 1), .val (.ref b53), .unset, .unset, .unset, .unset] [])) rfl (hb hby at_230) (by decide) (by decide)
    obtain ⟨b62, g62⟩ : ∃ z, z = h58.size := ⟨_, rfl⟩
    rw [← g62] at A62 D62 st62
    have f63 := (f56.other W58 ne_b1_b53)
    have ne_b1_b62 : b1 ≠ b62 := Nat.ne_of_lt (Nat.lt_of_lt_of_le f63.lt (Nat.le_of_eq g62.symm))
    have ne_b53_b62 : b53 ≠ b62 := Nat.ne_of_lt (Nat.lt_of_lt_of_le Vn58.lt (Nat.le_of_eq g62.symm))
    have g_b62 : n0 ≤ b62 := Nat.le_trans (own_z O_58) (Nat.le_of_eq g62.symm)
    have Sf_b62 := Safe.ext E62 CH61.1 (Safe.new (Nat.le_of_eq g62.symm))
    have Sf64 := Safe.ext E62 CH61.1 Sf59
    have Sf65 := Safe.ext E62 CH61.1 Sf60
    have CH66 := CH61.trans (CHr.ext E62 CH61.1)
    have O_62 := O_58.ext E62
    have F62_coder : Fld Z h62 b62 "java/lang/String" "coder" "B" (.int 0) := D62 (Or.inr (own_w31 hw)) (ty := .byte) (by decide)
    have F62_value : Fld Z h62 b62 "java/lang/String" "value" "[B" .null := D62 (Or.inr (own_w33 hw)) (ty := (.array .byte)) (by decide)
    refine GoesW.step (B := T62.setTop (mkF m 233 #[.val (.int i0), .val (.int i1), .val (.int i2), .val (.int i3), .val (.int i4), .val (.int i5), .val (.ref b1), .val (.int 1), .val (.ref b53), .unset, .unset, .unset, .unset] [(.ref b62)])) st62 ?_
    refine GoesW.step (fun _ k => pw_dup X62.here hx (hb hby at_233) rfl _ (pw_aload X62.here hx (hb hby at_234) rfl rfl _ k)) ?_
    have f68 := (Vn58.ext E62)
    have f69 := S_COMPACT_STRINGS.ext O_62.2
    obtain ⟨_, _, ⟨T67, qL67, qk67, qn67⟩, -, X67, ⟨Lc67, hQ67, ql67, qy67, qz67⟩, st67⟩ := X62.specialBack hx (y := (⟨"java/lang/String", "<init>", "([C)V"⟩ : MethodName)) rfl hown (mvT hZ (own_w8 hw)) (mvT hZ (own_w9 hw)) (mvT hZ (own_w10 hw)) (by decide) (backOf (W := 1) (rmSI_1 l Z a0 hw [] b62 b53 k53 cs r_3 h62 n0 O_62 A62 g_b62 F62_value F62_coder f68 f69 hcs hok_3) hZ (own_w10 hw) (own_w7 hw) (by decide) (by decide)) (g := (mkF m 236 #[.val (.int i0), .val (.int i1), .val (.int i2), .val (.int i3), .val (.int i4), .val (.int i5), .val (.ref b1), .val (.int 1), .val (.ref b53), .unset, .unset, .unset, .unset] [(.ref b53), (.ref b62), (.ref b62)])) rfl (by rw [hml]; rfl) (Steps.refl _) (a := b62) (argsL := [(.ref b53)]) (rest := [(.ref b62)]) (lenOf pd_22 rfl) rfl (by show 2 * 0 + _ ≤ _; exact Nat.le_of_eq rfl) (hb hby at_236) (fun _ _ => ⟨rfl, e62, (by decide : 3 + 1 ≤ _), (by decide : 10 + 1 ≤ _)⟩)
    dsimp only [Pt.U, Pt.locs, Pt.cells, Pt.slots] at X67 ql67 qy67 qz67 st67 hQ67
    rw [ql67, qy67, qz67] at X67
    obtain ⟨rfl, Nq67, Kp67, Ex67, sv67, sk67, Fsv67, Fsc67, Vsv67⟩ := hQ67
    have Sf70 := Safe.keep Kp67 (sfS Sf_b62 sf0) CH66.1 Sf64
    have Sf71 := Safe.keep Kp67 (sfS Sf_b62 sf0) CH66.1 Sf65
    have Sf72 := Safe.keep Kp67 (sfS Sf_b62 sf0) CH66.1 Sf_b62
    have CH73 := CH66.trans (CHr.keep Kp67 (sfS Sf_b62 sf0) CH66.1)
    have O_67 := O_62.keep Kp67 (allS g_b62 all0)
    have N67 := Fr.app N58 Nq67
    refine GoesW.via (B := T67.setTop (mkF m 239 #[.val (.int i0), .val (.int i1), .val (.int i2), .val (.int i3), .val (.int i4), .val (.int i5), .val (.ref b1), .val (.int 1), .val (.ref b53), .unset, .unset, .unset, .unset] [(.ref b62)])) st67 ?_
    refine GoesW.step (fun _ k => pw_astore X67.here hx (l' := #[.val (.int i0), .val (.int i1), .val (.int i2), .val (.int i3), .val (.int i4), .val (.int i5), .val (.ref b1), .val (.int 1), .val (.ref b53), .val (.ref b62), .unset, .unset, .unset]) (hb hby at_239) rfl rfl _ (pw_aload X67.here hx (hb hby at_241) rfl rfl _ k)) ?_
    have f75 := S_COMPACT_STRINGS.ext O_67.2
    obtain ⟨_, vw74, ⟨T74, qL74, qk74, qn74⟩, -, Xr74, S274, sz74, ⟨Lc74, hQ74, ql74, qy74, qz74, Hc74⟩, st74⟩ := callSS X67 hx (y := (⟨"com/example/partwright/partwright/reader/FormPart", "lastPathComponent", "(Ljava/lang/String;)Ljava/lang/String;"⟩ : MethodName)) hown (mvT hZ (own_w34 hw)) (mvT hZ (own_w35 hw)) (mvT hZ (own_w36 hw)) (mvT hZ (own_w37 hw)) (by decide) (backOfSH (W := 0) (rmLP l Z a0 hw [] b62 sv67 sk67 (1 : Int32) [(own_b r_3)] cs fm T67.heap n0 O_67 FS Ex67 Fsc67 Fsv67 Vsv67 rfl (by decide)) hZ (own_w37 hw) (own_w36 hw) (by decide) (by decide) (own_EW hw) CH73.1) (g := (mkF m 243 #[.val (.int i0), .val (.int i1), .val (.int i2), .val (.int i3), .val (.int i4), .val (.int i5), .val (.ref b1), .val (.int 1), .val (.ref b53), .val (.ref b62), .unset, .unset, .unset] [(.ref b62)])) rfl (by rw [hml]; rfl) (argsL := [(.ref b62)]) (rest := []) (lenOf pd_23 rfl) rfl (by show 2 * 0 + _ ≤ _; exact Nat.le_of_eq rfl) (hb hby at_243) (fun _ _ => ⟨rfl, rfl, (by decide : 4 + 2 ≤ _), (by decide : 11 + 9 ≤ _)⟩)
    dsimp only [Pt.U, Pt.locs, Pt.cells, Pt.slots] at Xr74 S274 sz74 ql74 qy74 qz74 st74 hQ74 Hc74
    rw [ql74, qy74, qz74] at Xr74
    obtain ⟨X74, hS74, hZ74, hown74⟩ := rebS hS0 (by exact (Nat.le_trans (Nat.le_trans (Nat.le_trans (Nat.le_trans (Nat.le_trans (Nat.le_trans (Nat.le_trans (Nat.le_trans (Nat.le_trans (Nat.le_trans (Nat.le_refl _) E1.1) (Nat.le_of_eq W4.size.symm)) (Nat.le_of_eq W8.size.symm)) (Nat.le_of_eq W12.size.symm)) (Nat.le_of_eq W16.size.symm)) (Nat.le_of_eq W20.size.symm)) E53.1) (Nat.le_of_eq W58.size.symm)) E62.1) Kp67.1)) Xr74 S274 sz74 hZ hown
    have CHc74 := CH73.trans Hc74
    obtain ⟨r74, vb74, kv74, mm74, bb74, rfl, Nq74, Kp74, hbb74, hmm74, Er74, Fv74, Fc74, Vr74⟩ := hQ74
    have f77 := ((f63.ext E62).keep Kp67 (ninS ne_b1_b62 nin0))
    have Sf76 := CHr.safe Hc74 f77.lt Sf70
    have f79 := (f68.keep Kp67 (ninS ne_b53_b62 nin0))
    have Sf78 := CHr.safe Hc74 f79.lt Sf71
    have Sf80 := CHr.safe Hc74 Ex67.lt Sf72
    have O_74 := O_67.keep Kp74 all0
    have N74 := Fr.app N67 Nq74
    refine GoesW.via (B := T74.setTop (mkF m 246 #[.val (.int i0), .val (.int i1), .val (.int i2), .val (.int i3), .val (.int i4), .val (.int i5), .val (.ref b1), .val (.int 1), .val (.ref b53), .val (.ref b62), .unset, .unset, .unset] [(.ref r74)])) st74 ?_
    refine GoesW.step (fun _ k => pw_astore X74.here hx (l' := #[.val (.int i0), .val (.int i1), .val (.int i2), .val (.int i3), .val (.int i4), .val (.int i5), .val (.ref b1), .val (.int 1), .val (.ref b53), .val (.ref b62), .val (.ref r74), .unset, .unset]) (hb hby at_246) rfl rfl _ (pw_iconst X74.here hx (v := (-1 : Int32)) (hb hby at_248) rfl _ (pw_istore X74.here hx (l' := #[.val (.int i0), .val (.int i1), .val (.int i2), .val (.int i3), .val (.int i4), .val (.int i5), .val (.ref b1), .val (.int 1), .val (.ref b53), .val (.ref b62), .val (.ref r74), .val (.int (-1)), .unset]) (hb hby at_249) rfl _ (pw_iload X74.here hx (hb hby at_251) rfl _ (pw_ifNo X74.here hx (hb hby at_253) ((if0 _ _).trans (tlt (by decide)).2.2.2) _ (pw_aload X74.here hx (hb hby at_256) rfl rfl _ k)))))) ?_
    refine GoesW.step (fun _ k => pw_iconst X74.here hx (v := (0 : Int32)) (hb hby at_258) rfl _ k) ?_
    have f81 := (f77.keep Kp74 nin0)
    obtain ⟨c82, Ar82, -, Sz82, Nn82, Hs82, -⟩ := id f81
    have hin82 : ¬ ((0 : Int32) < 0 ∨ c82.slots.size ≤ ((0 : Int32)).toNatClampNeg) := inb_of Sz82 ⟨by decide, by decide⟩
    refine GoesW.step (B := T74.setTop (mkF m 260 #[.val (.int i0), .val (.int i1), .val (.int i2), .val (.int i3), .val (.int i4), .val (.int i5), .val (.ref b1), .val (.int 1), .val (.ref b53), .val (.ref b62), .val (.ref r74), .val (.int (-1)), .unset] [(.int r_3)])) (X74.caload hx (j := (0 : Int32)) (v := (.int r_3)) (by exact Ar82.1) (State.isArrayOf_alike hZ74.alike Ar82.2.1) Ar82.2.2 hin82 (Has.at Hs82 hin82 rfl) (g := (mkF m 259 #[.val (.int i0), .val (.int i1), .val (.int i2), .val (.int i3), .val (.int i4), .val (.int i5), .val (.ref b1), .val (.int 1), .val (.ref b53), .val (.ref b62), .val (.ref r74), .val (.int (-1)), .unset] [(.int 0), (.ref b1)])) rfl rfl (hb hby at_259)) ?_
    obtain ⟨_, _, ⟨T83, qL83, qk83, qn83⟩, -, X83, ⟨Lc83, hQ83, ql83, qy83, qz83⟩, st83⟩ := Jvm.LawKit.callS X74 hx (y := (⟨"com/example/partwright/partwright/reader/FormPartLastPathComponentPinLaw", "sep", "(C)Z"⟩ : MethodName)) hown74 (mvT hZ74 (own_w117 hw)) (mvT hZ74 (own_w118 hw)) (mvT hZ74 (own_w3 hw)) (mvT hZ74 (own_w119 hw)) (by decide) (backOf (W := 0) (rm27 l Z a0 hw [] r_3 T74.heap n0 O_74 ) hZ74 (own_w119 hw) (own_w3 hw) (by decide) (by decide)) (g := (mkF m 260 #[.val (.int i0), .val (.int i1), .val (.int i2), .val (.int i3), .val (.int i4), .val (.int i5), .val (.ref b1), .val (.int 1), .val (.ref b53), .val (.ref b62), .val (.ref r74), .val (.int (-1)), .unset] [(.int r_3)])) rfl (by rw [hml]; rfl) (argsL := [(.int r_3)]) (rest := []) (lenOf pd_25 rfl) rfl (by show 2 * 0 + _ ≤ _; exact Nat.le_of_eq rfl) (hb hby at_260) (fun _ _ => ⟨rfl, rfl, (by decide : 6 + 0 ≤ _), (by decide : 20 + 0 ≤ _)⟩)
    dsimp only [Pt.U, Pt.locs, Pt.cells, Pt.slots] at X83 ql83 qy83 qz83 st83 hQ83
    rw [ql83, qy83, qz83] at X83
    obtain ⟨rfl, Nq83, eh83⟩ := hQ83
    have N83 := Fr.app N74 Nq83
    refine GoesW.step (B := T83.setTop (mkF m 263 #[.val (.int i0), .val (.int i1), .val (.int i2), .val (.int i3), .val (.int i4), .val (.int i5), .val (.ref b1), .val (.int 1), .val (.ref b53), .val (.ref b62), .val (.ref r74), .val (.int (-1)), .unset] [(.int (own_sep r_3))])) st83 ?_
    have J84 : ∀ (kj0 : Int32), kj0 = own_k1 r_3 → GoesW p e below s (Q0 Z i0 i1 i2 i3 i4 i5 cs fm h0 n0) room_1.cells room_1.slots (T83.setTop (mkF m 269 #[.val (.int i0), .val (.int i1), .val (.int i2), .val (.int i3), .val (.int i4), .val (.int i5), .val (.ref b1), .val (.int 1), .val (.ref b53), .val (.ref b62), .val (.ref r74), .val (.int kj0), .unset] [])) := by
     intro kj0 hkj0
     refine GoesW.step (fun _ k => pw_iload X83.here hx (hb hby at_269) rfl _ (pw_iconst X83.here hx (v := (1 : Int32)) (hb hby at_271) rfl _ (pw_icmpYes X83.here hx (pc' := 288) (hb hby at_272) (flt (by decide)).2.2.2 (by decide) (by decide) _ (pw_iload X83.here hx (hb hby at_288) rfl _ (pw_iconst X83.here hx (v := (2 : Int32)) (hb hby at_290) rfl _ (pw_icmpYes X83.here hx (pc' := 307) (hb hby at_291) (flt (by decide)).2.2.2 (by decide) (by decide) _ k)))))) ?_
     refine GoesW.step (fun _ k => pw_iload X83.here hx (hb hby at_307) rfl _ (pw_iconst X83.here hx (v := (3 : Int32)) (hb hby at_309) rfl _ (pw_icmpYes X83.here hx (pc' := 326) (hb hby at_310) (flt (by decide)).2.2.2 (by decide) (by decide) _ (pw_iload X83.here hx (hb hby at_326) rfl _ (pw_iconst X83.here hx (v := (4 : Int32)) (hb hby at_328) rfl _ (pw_icmpYes X83.here hx (pc' := 345) (hb hby at_329) (flt (by decide)).2.2.2 (by decide) (by decide) _ k)))))) ?_
     have hke : kj0 = own_k1 r_3 := hkj0
     have heq : own_max (own_lix (47 : Int32) [(own_b r_3)]) (own_lix (92 : Int32) [(own_b r_3)]) = own_k1 r_3 := own_eq1 hok_3
     have hkb : -1 ≤ (kj0 : Int32).toInt ∧ (kj0 : Int32).toInt < 1 := by rw [hke, ← heq]; exact own_mb1 (own_b r_3) 47 92
     have hbk : bb74 = kj0 + 1 := by rw [hbb74, heq, hke]
     have hme := own_m1 hkb hbk hmm74
     refine GoesW.step (fun _ k => pw_iload X83.here hx (hb hby at_345) rfl _ (pw_iload X83.here hx (hb hby at_347) rfl _ (pw_isub X83.here hx (hb hby at_349) _ (pw_iconst X83.here hx (v := (1 : Int32)) (hb hby at_350) rfl _ (pw_isub X83.here hx (hb hby at_351) _ (pw_istore X83.here hx (l' := #[.val (.int i0), .val (.int i1), .val (.int i2), .val (.int i3), .val (.int i4), .val (.int i5), .val (.ref b1), .val (.int 1), .val (.ref b53), .val (.ref b62), .val (.ref r74), .val (.int kj0), .val (.int (((1 : Int32) - kj0) - (1 : Int32)))]) (hb hby at_352) rfl _ k)))))) ?_
     refine GoesW.step (fun _ k => pw_aload X83.here hx (hb hby at_354) rfl rfl _ k) ?_
     have f86 := S_COMPACT_STRINGS.ext O_74.2
     obtain ⟨cq85, kq85, qa85, qb85, qc85⟩ := isOf hZ74 eh83 Er74
     obtain ⟨_, _, ⟨T85, qL85, qk85, qn85⟩, -, X85, ⟨Lc85, hQ85, ql85, qy85, qz85⟩, st85⟩ := X83.virtualBack hx (y := (⟨"java/lang/String", "length", "()I"⟩ : MethodName)) (z := (⟨"java/lang/String", "length", "()I"⟩ : MethodName)) hown74 (mvT hZ74 (own_w120 hw)) (mvT hZ74 (own_w44 hw)) (notFace_of_selects (args := #[]) (mvT hZ74 (own_w46 hw))) (mvT hZ74 (own_w46 hw)) (mvT hZ74 (own_w45 hw)) (by decide) (backOf (W := 0) (rm10 l Z a0 hw [] r74 vb74 kv74 mm74 (own_sub [(own_b r_3)] bb74 mm74) cs T74.heap n0 O_74 f86 hcs Er74 Fc74 Fv74 Vr74) hZ74 (own_w47 hw) (own_w7 hw) (by decide) (by decide)) qa85 qc85 (g := (mkF m 356 #[.val (.int i0), .val (.int i1), .val (.int i2), .val (.int i3), .val (.int i4), .val (.int i5), .val (.ref b1), .val (.int 1), .val (.ref b53), .val (.ref b62), .val (.ref r74), .val (.int kj0), .val (.int (((1 : Int32) - kj0) - (1 : Int32)))] [(.ref r74)])) rfl (by rw [hml]; rfl) (Steps.refl _) (argsL := []) (rest := []) (lenOf pd_13 rfl) rfl (by show 2 * 0 + _ ≤ _; exact Nat.le_of_eq rfl) (hb hby at_356) (fun _ _ => ⟨rfl, eh83, (by decide : 6 + 0 ≤ _), (by decide : 20 + 0 ≤ _)⟩)
     dsimp only [Pt.U, Pt.locs, Pt.cells, Pt.slots] at X85 ql85 qy85 qz85 st85 hQ85
     rw [ql85, qy85, qz85] at X85
     obtain ⟨rfl, Nq85, eh85⟩ := hQ85
     have N85 := Fr.app N83 Nq85
     refine GoesW.via (B := T85.setTop (mkF m 359 #[.val (.int i0), .val (.int i1), .val (.int i2), .val (.int i3), .val (.int i4), .val (.int i5), .val (.ref b1), .val (.int 1), .val (.ref b53), .val (.ref b62), .val (.ref r74), .val (.int kj0), .val (.int (((1 : Int32) - kj0) - (1 : Int32)))] [(.int mm74)])) st85 ?_
     refine GoesW.step (fun _ k => pw_iload X85.here hx (hb hby at_359) rfl _ (pw_icmpYes X85.here hx (pc' := 366) (hb hby at_361) (teq (by rw [hme])).1 (by decide) (by decide) _ (pw_aload X85.here hx (hb hby at_366) rfl rfl _ (pw_iconst X85.here hx (v := (0 : Int32)) (hb hby at_368) rfl _ (pw_iload X85.here hx (hb hby at_369) rfl _ (pw_aload X85.here hx (hb hby at_371) rfl rfl _ k)))))) ?_
     refine GoesW.step (fun _ k => pw_iload X85.here hx (hb hby at_373) rfl _ (pw_iconst X85.here hx (v := (1 : Int32)) (hb hby at_375) rfl _ (pw_iadd X85.here hx (hb hby at_376) _ k))) ?_
     obtain ⟨_, _, ⟨T87, qL87, qk87, qn87⟩, -, X87, ⟨Lc87, hQ87, ql87, qy87, qz87⟩, st87⟩ := Jvm.LawKit.callS X85 hx (y := (⟨"com/example/partwright/partwright/reader/FormPartLastPathComponentPinLaw", "at", "(Ljava/lang/String;II[CI)Z"⟩ : MethodName)) hown74 (mvT hZ74 (own_w121 hw)) (mvT hZ74 (own_w122 hw)) (mvT hZ74 (own_w3 hw)) (mvT hZ74 (own_w123 hw)) (by decide) (backOf (W := 0) (rmAt l Z a0 hw [] r74 vb74 kv74 mm74 (own_sub [(own_b r_3)] bb74 mm74) b1 k1 r_3 r_7 r_11 r_15 r_19 (0 : Int32) (((1 : Int32) - kj0) - (1 : Int32)) (kj0 + (1 : Int32)) cs fm T74.heap n0 O_74 FS Er74 Fc74 Fv74 Vr74 f81 (own_hat1 hok_3 hkb hbk hmm74 (by decide) (by decide))) hZ74 (own_w123 hw) (own_w3 hw) (by decide) (by decide)) (g := (mkF m 377 #[.val (.int i0), .val (.int i1), .val (.int i2), .val (.int i3), .val (.int i4), .val (.int i5), .val (.ref b1), .val (.int 1), .val (.ref b53), .val (.ref b62), .val (.ref r74), .val (.int kj0), .val (.int (((1 : Int32) - kj0) - (1 : Int32)))] [(.int (kj0 + (1 : Int32))), (.ref b1), (.int (((1 : Int32) - kj0) - (1 : Int32))), (.int 0), (.ref r74)])) rfl (by rw [hml]; rfl) (argsL := [(.ref r74), (.int 0), (.int (((1 : Int32) - kj0) - (1 : Int32))), (.ref b1), (.int (kj0 + (1 : Int32)))]) (rest := []) (lenOf pd_24 rfl) rfl (by show 2 * 0 + _ ≤ _; exact Nat.le_of_eq rfl) (hb hby at_377) (fun _ _ => ⟨rfl, eh85, (by decide : 6 + 0 ≤ _), (by decide : 20 + 0 ≤ _)⟩)
     dsimp only [Pt.U, Pt.locs, Pt.cells, Pt.slots] at X87 ql87 qy87 qz87 st87 hQ87
     rw [ql87, qy87, qz87] at X87
     obtain ⟨rfl, Nq87, eh87⟩ := hQ87
     have N87 := Fr.app N85 Nq87
     refine GoesW.step (B := T87.setTop (mkF m 380 #[.val (.int i0), .val (.int i1), .val (.int i2), .val (.int i3), .val (.int i4), .val (.int i5), .val (.ref b1), .val (.int 1), .val (.ref b53), .val (.ref b62), .val (.ref r74), .val (.int kj0), .val (.int (((1 : Int32) - kj0) - (1 : Int32)))] [(.int 1)])) st87 ?_
     refine GoesW.step (fun _ k => pw_ifNo X87.here hx (hb hby at_380) ((if0 _ _).trans (feq (by decide)).1) _ (pw_aload X87.here hx (hb hby at_383) rfl rfl _ (pw_iconst X87.here hx (v := (1 : Int32)) (hb hby at_385) rfl _ (pw_iload X87.here hx (hb hby at_386) rfl _ (pw_aload X87.here hx (hb hby at_388) rfl rfl _ (pw_iload X87.here hx (hb hby at_390) rfl _ k)))))) ?_
     refine GoesW.step (fun _ k => pw_iconst X87.here hx (v := (1 : Int32)) (hb hby at_392) rfl _ (pw_iadd X87.here hx (hb hby at_393) _ k)) ?_
     obtain ⟨_, _, ⟨T88, qL88, qk88, qn88⟩, -, X88, ⟨Lc88, hQ88, ql88, qy88, qz88⟩, st88⟩ := Jvm.LawKit.callS X87 hx (y := (⟨"com/example/partwright/partwright/reader/FormPartLastPathComponentPinLaw", "at", "(Ljava/lang/String;II[CI)Z"⟩ : MethodName)) hown74 (mvT hZ74 (own_w121 hw)) (mvT hZ74 (own_w122 hw)) (mvT hZ74 (own_w3 hw)) (mvT hZ74 (own_w123 hw)) (by decide) (backOf (W := 0) (rmAt l Z a0 hw [] r74 vb74 kv74 mm74 (own_sub [(own_b r_3)] bb74 mm74) b1 k1 r_3 r_7 r_11 r_15 r_19 (1 : Int32) (((1 : Int32) - kj0) - (1 : Int32)) (kj0 + (1 : Int32)) cs fm T74.heap n0 O_74 FS Er74 Fc74 Fv74 Vr74 f81 (own_hat1 hok_3 hkb hbk hmm74 (by decide) (by decide))) hZ74 (own_w123 hw) (own_w3 hw) (by decide) (by decide)) (g := (mkF m 394 #[.val (.int i0), .val (.int i1), .val (.int i2), .val (.int i3), .val (.int i4), .val (.int i5), .val (.ref b1), .val (.int 1), .val (.ref b53), .val (.ref b62), .val (.ref r74), .val (.int kj0), .val (.int (((1 : Int32) - kj0) - (1 : Int32)))] [(.int (kj0 + (1 : Int32))), (.ref b1), (.int (((1 : Int32) - kj0) - (1 : Int32))), (.int 1), (.ref r74)])) rfl (by rw [hml]; rfl) (argsL := [(.ref r74), (.int 1), (.int (((1 : Int32) - kj0) - (1 : Int32))), (.ref b1), (.int (kj0 + (1 : Int32)))]) (rest := []) (lenOf pd_24 rfl) rfl (by show 2 * 0 + _ ≤ _; exact Nat.le_of_eq rfl) (hb hby at_394) (fun _ _ => ⟨rfl, eh87, (by decide : 6 + 0 ≤ _), (by decide : 20 + 0 ≤ _)⟩)
     dsimp only [Pt.U, Pt.locs, Pt.cells, Pt.slots] at X88 ql88 qy88 qz88 st88 hQ88
     rw [ql88, qy88, qz88] at X88
     obtain ⟨rfl, Nq88, eh88⟩ := hQ88
     have N88 := Fr.app N87 Nq88
     refine GoesW.step (B := T88.setTop (mkF m 397 #[.val (.int i0), .val (.int i1), .val (.int i2), .val (.int i3), .val (.int i4), .val (.int i5), .val (.ref b1), .val (.int 1), .val (.ref b53), .val (.ref b62), .val (.ref r74), .val (.int kj0), .val (.int (((1 : Int32) - kj0) - (1 : Int32)))] [(.int 1)])) st88 ?_
     refine GoesW.step (fun _ k => pw_ifNo X88.here hx (hb hby at_397) ((if0 _ _).trans (feq (by decide)).1) _ (pw_aload X88.here hx (hb hby at_400) rfl rfl _ (pw_iconst X88.here hx (v := (2 : Int32)) (hb hby at_402) rfl _ (pw_iload X88.here hx (hb hby at_403) rfl _ (pw_aload X88.here hx (hb hby at_405) rfl rfl _ (pw_iload X88.here hx (hb hby at_407) rfl _ k)))))) ?_
     refine GoesW.step (fun _ k => pw_iconst X88.here hx (v := (1 : Int32)) (hb hby at_409) rfl _ (pw_iadd X88.here hx (hb hby at_410) _ k)) ?_
     obtain ⟨_, _, ⟨T89, qL89, qk89, qn89⟩, -, X89, ⟨Lc89, hQ89, ql89, qy89, qz89⟩, st89⟩ := Jvm.LawKit.callS X88 hx (y := (⟨"com/example/partwright/partwright/reader/FormPartLastPathComponentPinLaw", "at", "(Ljava/lang/String;II[CI)Z"⟩ : MethodName)) hown74 (mvT hZ74 (own_w121 hw)) (mvT hZ74 (own_w122 hw)) (mvT hZ74 (own_w3 hw)) (mvT hZ74 (own_w123 hw)) (by decide) (backOf (W := 0) (rmAt l Z a0 hw [] r74 vb74 kv74 mm74 (own_sub [(own_b r_3)] bb74 mm74) b1 k1 r_3 r_7 r_11 r_15 r_19 (2 : Int32) (((1 : Int32) - kj0) - (1 : Int32)) (kj0 + (1 : Int32)) cs fm T74.heap n0 O_74 FS Er74 Fc74 Fv74 Vr74 f81 (own_hat1 hok_3 hkb hbk hmm74 (by decide) (by decide))) hZ74 (own_w123 hw) (own_w3 hw) (by decide) (by decide)) (g := (mkF m 411 #[.val (.int i0), .val (.int i1), .val (.int i2), .val (.int i3), .val (.int i4), .val (.int i5), .val (.ref b1), .val (.int 1), .val (.ref b53), .val (.ref b62), .val (.ref r74), .val (.int kj0), .val (.int (((1 : Int32) - kj0) - (1 : Int32)))] [(.int (kj0 + (1 : Int32))), (.ref b1), (.int (((1 : Int32) - kj0) - (1 : Int32))), (.int 2), (.ref r74)])) rfl (by rw [hml]; rfl) (argsL := [(.ref r74), (.int 2), (.int (((1 : Int32) - kj0) - (1 : Int32))), (.ref b1), (.int (kj0 + (1 : Int32)))]) (rest := []) (lenOf pd_24 rfl) rfl (by show 2 * 0 + _ ≤ _; exact Nat.le_of_eq rfl) (hb hby at_411) (fun _ _ => ⟨rfl, eh88, (by decide : 6 + 0 ≤ _), (by decide : 20 + 0 ≤ _)⟩)
     dsimp only [Pt.U, Pt.locs, Pt.cells, Pt.slots] at X89 ql89 qy89 qz89 st89 hQ89
     rw [ql89, qy89, qz89] at X89
     obtain ⟨rfl, Nq89, eh89⟩ := hQ89
     have N89 := Fr.app N88 Nq89
     refine GoesW.step (B := T89.setTop (mkF m 414 #[.val (.int i0), .val (.int i1), .val (.int i2), .val (.int i3), .val (.int i4), .val (.int i5), .val (.ref b1), .val (.int 1), .val (.ref b53), .val (.ref b62), .val (.ref r74), .val (.int kj0), .val (.int (((1 : Int32) - kj0) - (1 : Int32)))] [(.int 1)])) st89 ?_
     refine GoesW.step (fun _ k => pw_ifNo X89.here hx (hb hby at_414) ((if0 _ _).trans (feq (by decide)).1) _ (pw_aload X89.here hx (hb hby at_417) rfl rfl _ (pw_iconst X89.here hx (v := (3 : Int32)) (hb hby at_419) rfl _ (pw_iload X89.here hx (hb hby at_420) rfl _ (pw_aload X89.here hx (hb hby at_422) rfl rfl _ (pw_iload X89.here hx (hb hby at_424) rfl _ k)))))) ?_
     refine GoesW.step (fun _ k => pw_iconst X89.here hx (v := (1 : Int32)) (hb hby at_426) rfl _ (pw_iadd X89.here hx (hb hby at_427) _ k)) ?_
     obtain ⟨_, _, ⟨T90, qL90, qk90, qn90⟩, -, X90, ⟨Lc90, hQ90, ql90, qy90, qz90⟩, st90⟩ := Jvm.LawKit.callS X89 hx (y := (⟨"com/example/partwright/partwright/reader/FormPartLastPathComponentPinLaw", "at", "(Ljava/lang/String;II[CI)Z"⟩ : MethodName)) hown74 (mvT hZ74 (own_w121 hw)) (mvT hZ74 (own_w122 hw)) (mvT hZ74 (own_w3 hw)) (mvT hZ74 (own_w123 hw)) (by decide) (backOf (W := 0) (rmAt l Z a0 hw [] r74 vb74 kv74 mm74 (own_sub [(own_b r_3)] bb74 mm74) b1 k1 r_3 r_7 r_11 r_15 r_19 (3 : Int32) (((1 : Int32) - kj0) - (1 : Int32)) (kj0 + (1 : Int32)) cs fm T74.heap n0 O_74 FS Er74 Fc74 Fv74 Vr74 f81 (own_hat1 hok_3 hkb hbk hmm74 (by decide) (by decide))) hZ74 (own_w123 hw) (own_w3 hw) (by decide) (by decide)) (g := (mkF m 428 #[.val (.int i0), .val (.int i1), .val (.int i2), .val (.int i3), .val (.int i4), .val (.int i5), .val (.ref b1), .val (.int 1), .val (.ref b53), .val (.ref b62), .val (.ref r74), .val (.int kj0), .val (.int (((1 : Int32) - kj0) - (1 : Int32)))] [(.int (kj0 + (1 : Int32))), (.ref b1), (.int (((1 : Int32) - kj0) - (1 : Int32))), (.int 3), (.ref r74)])) rfl (by rw [hml]; rfl) (argsL := [(.ref r74), (.int 3), (.int (((1 : Int32) - kj0) - (1 : Int32))), (.ref b1), (.int (kj0 + (1 : Int32)))]) (rest := []) (lenOf pd_24 rfl) rfl (by show 2 * 0 + _ ≤ _; exact Nat.le_of_eq rfl) (hb hby at_428) (fun _ _ => ⟨rfl, eh89, (by decide : 6 + 0 ≤ _), (by decide : 20 + 0 ≤ _)⟩)
     dsimp only [Pt.U, Pt.locs, Pt.cells, Pt.slots] at X90 ql90 qy90 qz90 st90 hQ90
     rw [ql90, qy90, qz90] at X90
     obtain ⟨rfl, Nq90, eh90⟩ := hQ90
     have N90 := Fr.app N89 Nq90
     refine GoesW.step (B := T90.setTop (mkF m 431 #[.val (.int i0), .val (.int i1), .val (.int i2), .val (.int i3), .val (.int i4), .val (.int i5), .val (.ref b1), .val (.int 1), .val (.ref b53), .val (.ref b62), .val (.ref r74), .val (.int kj0), .val (.int (((1 : Int32) - kj0) - (1 : Int32)))] [(.int 1)])) st90 ?_
     refine GoesW.step (fun _ k => pw_ifNo X90.here hx (hb hby at_431) ((if0 _ _).trans (feq (by decide)).1) _ (pw_aload X90.here hx (hb hby at_434) rfl rfl _ (pw_iconst X90.here hx (v := (4 : Int32)) (hb hby at_436) rfl _ (pw_iload X90.here hx (hb hby at_437) rfl _ (pw_aload X90.here hx (hb hby at_439) rfl rfl _ (pw_iload X90.here hx (hb hby at_441) rfl _ k)))))) ?_
     refine GoesW.step (fun _ k => pw_iconst X90.here hx (v := (1 : Int32)) (hb hby at_443) rfl _ (pw_iadd X90.here hx (hb hby at_444) _ k)) ?_
     obtain ⟨_, _, ⟨T91, qL91, qk91, qn91⟩, -, X91, ⟨Lc91, hQ91, ql91, qy91, qz91⟩, st91⟩ := Jvm.LawKit.callS X90 hx (y := (⟨"com/example/partwright/partwright/reader/FormPartLastPathComponentPinLaw", "at", "(Ljava/lang/String;II[CI)Z"⟩ : MethodName)) hown74 (mvT hZ74 (own_w121 hw)) (mvT hZ74 (own_w122 hw)) (mvT hZ74 (own_w3 hw)) (mvT hZ74 (own_w123 hw)) (by decide) (backOf (W := 0) (rmAt l Z a0 hw [] r74 vb74 kv74 mm74 (own_sub [(own_b r_3)] bb74 mm74) b1 k1 r_3 r_7 r_11 r_15 r_19 (4 : Int32) (((1 : Int32) - kj0) - (1 : Int32)) (kj0 + (1 : Int32)) cs fm T74.heap n0 O_74 FS Er74 Fc74 Fv74 Vr74 f81 (own_hat1 hok_3 hkb hbk hmm74 (by decide) (by decide))) hZ74 (own_w123 hw) (own_w3 hw) (by decide) (by decide)) (g := (mkF m 445 #[.val (.int i0), .val (.int i1), .val (.int i2), .val (.int i3), .val (.int i4), .val (.int i5), .val (.ref b1), .val (.int 1), .val (.ref b53), .val (.ref b62), .val (.ref r74), .val (.int kj0), .val (.int (((1 : Int32) - kj0) - (1 : Int32)))] [(.int (kj0 + (1 : Int32))), (.ref b1), (.int (((1 : Int32) - kj0) - (1 : Int32))), (.int 4), (.ref r74)])) rfl (by rw [hml]; rfl) (argsL := [(.ref r74), (.int 4), (.int (((1 : Int32) - kj0) - (1 : Int32))), (.ref b1), (.int (kj0 + (1 : Int32)))]) (rest := []) (lenOf pd_24 rfl) rfl (by show 2 * 0 + _ ≤ _; exact Nat.le_of_eq rfl) (hb hby at_445) (fun _ _ => ⟨rfl, eh90, (by decide : 6 + 0 ≤ _), (by decide : 20 + 0 ≤ _)⟩)
     dsimp only [Pt.U, Pt.locs, Pt.cells, Pt.slots] at X91 ql91 qy91 qz91 st91 hQ91
     rw [ql91, qy91, qz91] at X91
     obtain ⟨rfl, Nq91, eh91⟩ := hQ91
     have N91 := Fr.app N90 Nq91
     refine GoesW.step (B := T91.setTop (mkF m 448 #[.val (.int i0), .val (.int i1), .val (.int i2), .val (.int i3), .val (.int i4), .val (.int i5), .val (.ref b1), .val (.int 1), .val (.ref b53), .val (.ref b62), .val (.ref r74), .val (.int kj0), .val (.int (((1 : Int32) - kj0) - (1 : Int32)))] [(.int 1)])) st91 ?_
     refine GoesW.step (fun _ k => pw_ifNo X91.here hx (hb hby at_448) ((if0 _ _).trans (feq (by decide)).1) _ (pw_iconst X91.here hx (v := (1 : Int32)) (hb hby at_451) rfl _ (pw_goto X91.here hx (pc' := 456) (hb hby at_452) (by decide) (by decide) _ k))) ?_
     exact GoesW.retN X91 hS74 (Nat.le_refl _) hx eh91 (t := .boolean) Bd.returns (by simp) hlk (hb hby at_456) (by decide) (by decide) (⟨rfl, N91⟩)
    by_cases hc263_91 : (own_sep r_3) = (0 : Int32)
    · refine GoesW.step (fun _ k => pw_ifYes X83.here hx (pc' := 269) (hb hby at_263) ((if0 _ _).trans (teq hc263_91).1) (by decide) (by decide) _ k) ?_
      exact J84 (-1 : Int32) (by rw [own_k1, if_pos hc263_91]; exact rfl)
    · refine GoesW.step (fun _ k => pw_ifNo X83.here hx (hb hby at_263) ((if0 _ _).trans (feq hc263_91).1) _ (pw_iconst X83.here hx (v := (0 : Int32)) (hb hby at_266) rfl _ (pw_istore X83.here hx (l' := #[.val (.int i0), .val (.int i1), .val (.int i2), .val (.int i3), .val (.int i4), .val (.int i5), .val (.ref b1), .val (.int 1), .val (.ref b53), .val (.ref b62), .val (.ref r74), .val (.int 0), .unset]) (hb hby at_267) rfl _ k))) ?_
      exact J84 (0 : Int32) (by rw [own_k1, if_neg hc263_91])
  · refine GoesW.step (fun _ k => pw_istore X20.here hx (l' := #[.val (.int i0), .val (.int i1), .val (.int i2), .val (.int i3), .val (.int i4), .val (.int i5), .val (.ref b1), .val (.int 2), .unset, .unset, .unset, .unset, .unset]) (hb hby at_49) rfl _ (pw_iload X20.here hx (hb hby at_51) rfl _ (pw_ifYes X20.here hx (pc' := 64) (hb hby at_53) ((if0 _ _).trans (feq (by decide)).2) (by decide) (by decide) _ (pw_iload X20.here hx (hb hby at_64) rfl _ (pw_iconst X20.here hx (v := (1 : Int32)) (hb hby at_66) rfl _ (pw_icmpYes X20.here hx (pc' := 85) (hb hby at_67) (feq (by decide)).2 (by decide) (by decide) _ k)))))) ?_
    refine GoesW.step (fun _ k => pw_iload X20.here hx (hb hby at_85) rfl _ (pw_iconst X20.here hx (v := (2 : Int32)) (hb hby at_87) rfl _ (pw_icmpNo X20.here hx (hb hby at_88) (teq (by decide)).2 _ (pw_iconst X20.here hx (v := (2 : Int32)) (hb hby at_91) rfl _ k)))) ?_
    obtain ⟨T93, h93, k93, X93, e93, E93, A93, st93⟩ := newP (aty := .char) X20 hx hZ (own_w0 hw) e20 (g := (mkF m 92 #[.val (.int i0), .val (.int i1), .val (.int i2), .val (.int i3), .val (.int i4), .val (.int i5), .val (.ref b1), .val (.int 2), .unset, .unset, .unset, .unset, .unset] [(.int 2)])) rfl (hb hby at_92) rfl (by decide) (cap := 2) (by decide) (by decide) (by decide) (by decide)
    obtain ⟨b93, g93⟩ : ∃ z, z = h20.size := ⟨_, rfl⟩
    rw [← g93] at A93 st93
    have ne_b1_b93 : b1 ≠ b93 := Nat.ne_of_lt (Nat.lt_of_lt_of_le Vn20.lt (Nat.le_of_eq g93.symm))
    have g_b93 : n0 ≤ b93 := Nat.le_trans (own_z O_20) (Nat.le_of_eq g93.symm)
    have Sf_b93 := Safe.ext E93 CH22.1 (Safe.new (Nat.le_of_eq g93.symm))
    have Sf94 := Safe.ext E93 CH22.1 Sf21
    have CH95 := CH22.trans (CHr.ext E93 CH22.1)
    have O_93 := O_20.ext E93
    have V_b93 : Arv Z h93 b93 k93 .char (2 : Int32) [(.int 0), (.int 0)] (.int 0) := (Arv.new A93 (by decide)).pad (pad_rep [] (.int 0) 2)
    refine GoesW.step (B := T93.setTop (mkF m 94 #[.val (.int i0), .val (.int i1), .val (.int i2), .val (.int i3), .val (.int i4), .val (.int i5), .val (.ref b1), .val (.int 2), .unset, .unset, .unset, .unset, .unset] [(.ref b93)])) st93 ?_
    refine GoesW.step (fun _ k => pw_dup X93.here hx (hb hby at_94) rfl _ (pw_iconst X93.here hx (v := (0 : Int32)) (hb hby at_95) rfl _ (pw_aload X93.here hx (hb hby at_96) rfl rfl _ (pw_iconst X93.here hx (v := (0 : Int32)) (hb hby at_98) rfl _ k)))) ?_
    have f96 := (Vn20.ext E93)
    obtain ⟨c97, Ar97, -, Sz97, Nn97, Hs97, -⟩ := id f96
    have hin97 : ¬ ((0 : Int32) < 0 ∨ c97.slots.size ≤ ((0 : Int32)).toNatClampNeg) := inb_of Sz97 ⟨by decide, by decide⟩
    refine GoesW.step (B := T93.setTop (mkF m 100 #[.val (.int i0), .val (.int i1), .val (.int i2), .val (.int i3), .val (.int i4), .val (.int i5), .val (.ref b1), .val (.int 2), .unset, .unset, .unset, .unset, .unset] [(.int r_3), (.int 0), (.ref b93), (.ref b93)])) (X93.caload hx (j := (0 : Int32)) (v := (.int r_3)) (by rw [e93]; exact Ar97.1) (State.isArrayOf_alike hZ.alike Ar97.2.1) Ar97.2.2 hin97 (Has.at Hs97 hin97 rfl) (g := (mkF m 99 #[.val (.int i0), .val (.int i1), .val (.int i2), .val (.int i3), .val (.int i4), .val (.int i5), .val (.ref b1), .val (.int 2), .unset, .unset, .unset, .unset, .unset] [(.int 0), (.ref b1), (.int 0), (.ref b93), (.ref b93)])) rfl rfl (hb hby at_99)) ?_
    obtain ⟨c98, Ar98, q98, Sz98, Nn98, Hs98, Gs98⟩ := id V_b93
    have hin98 : ¬ ((0 : Int32) < 0 ∨ c98.slots.size ≤ ((0 : Int32)).toNatClampNeg) := inb_of Sz98 ⟨by decide, by decide⟩
    obtain ⟨T98, h98, X98, e98, W98, st98⟩ := stC X93 hx hZ e93 Ar98 (j := (0 : Int32)) hin98 (g := (mkF m 100 #[.val (.int i0), .val (.int i1), .val (.int i2), .val (.int i3), .val (.int i4), .val (.int i5), .val (.ref b1), .val (.int 2), .unset, .unset, .unset, .unset, .unset] [(.int r_3), (.int 0), (.ref b93), (.ref b93)])) rfl rfl (hb hby at_100)
    have Sf99 := Safe.wr W98 Sf_b93 CH95.1 Sf94
    have Sf100 := Safe.wr W98 Sf_b93 CH95.1 Sf_b93
    have CH101 := CH95.trans (CHr.wr W98 Sf_b93 CH95.1)
    have V98 : Arv Z h98 b93 k93 .char (2 : Int32) [(.int (nar .char r_3)), (.int 0)] (.int 0) := Arv.set Ar98 q98 Sz98 Nn98 Hs98 Gs98 (fits_nar_char _) W98 0 rfl (Nat.le_of_ble_eq_true rfl)
    have Vn98 : Arv Z h98 b93 k93 .char (2 : Int32) [(.int r_3), (.int 0)] (.int 0) := by have q := V98; rw [own_nr hok_3] at q; exact q
    have N98 := Fr.snoc X98 N20 g_b93
    have O_98 := O_93.wr W98 g_b93
    refine GoesW.step (B := T98.setTop (mkF m 101 #[.val (.int i0), .val (.int i1), .val (.int i2), .val (.int i3), .val (.int i4), .val (.int i5), .val (.ref b1), .val (.int 2), .unset, .unset, .unset, .unset, .unset] [(.ref b93)])) st98 ?_
    refine GoesW.step (fun _ k => pw_dup X98.here hx (hb hby at_101) rfl _ (pw_iconst X98.here hx (v := (1 : Int32)) (hb hby at_102) rfl _ (pw_aload X98.here hx (hb hby at_103) rfl rfl _ (pw_iconst X98.here hx (v := (1 : Int32)) (hb hby at_105) rfl _ k)))) ?_
    have f102 := (f96.other W98 ne_b1_b93)
    obtain ⟨c103, Ar103, -, Sz103, Nn103, Hs103, -⟩ := id f102
    have hin103 : ¬ ((1 : Int32) < 0 ∨ c103.slots.size ≤ ((1 : Int32)).toNatClampNeg) := inb_of Sz103 ⟨by decide, by decide⟩
    refine GoesW.step (B := T98.setTop (mkF m 107 #[.val (.int i0), .val (.int i1), .val (.int i2), .val (.int i3), .val (.int i4), .val (.int i5), .val (.ref b1), .val (.int 2), .unset, .unset, .unset, .unset, .unset] [(.int r_7), (.int 1), (.ref b93), (.ref b93)])) (X98.caload hx (j := (1 : Int32)) (v := (.int r_7)) (by rw [e98]; exact Ar103.1) (State.isArrayOf_alike hZ.alike Ar103.2.1) Ar103.2.2 hin103 (Has.at Hs103 hin103 rfl) (g := (mkF m 106 #[.val (.int i0), .val (.int i1), .val (.int i2), .val (.int i3), .val (.int i4), .val (.int i5), .val (.ref b1), .val (.int 2), .unset, .unset, .unset, .unset, .unset] [(.int 1), (.ref b1), (.int 1), (.ref b93), (.ref b93)])) rfl rfl (hb hby at_106)) ?_
    obtain ⟨c104, Ar104, q104, Sz104, Nn104, Hs104, Gs104⟩ := id Vn98
    have hin104 : ¬ ((1 : Int32) < 0 ∨ c104.slots.size ≤ ((1 : Int32)).toNatClampNeg) := inb_of Sz104 ⟨by decide, by decide⟩
    obtain ⟨T104, h104, X104, e104, W104, st104⟩ := stC X98 hx hZ e98 Ar104 (j := (1 : Int32)) hin104 (g := (mkF m 107 #[.val (.int i0), .val (.int i1), .val (.int i2), .val (.int i3), .val (.int i4), .val (.int i5), .val (.ref b1), .val (.int 2), .unset, .unset, .unset, .unset, .unset] [(.int r_7), (.int 1), (.ref b93), (.ref b93)])) rfl rfl (hb hby at_107)
    have Sf105 := Safe.wr W104 Sf100 CH101.1 Sf99
    have Sf106 := Safe.wr W104 Sf100 CH101.1 Sf100
    have CH107 := CH101.trans (CHr.wr W104 Sf100 CH101.1)
    have V104 : Arv Z h104 b93 k93 .char (2 : Int32) [(.int r_3), (.int (nar .char r_7))] (.int 0) := Arv.set Ar104 q104 Sz104 Nn104 Hs104 Gs104 (fits_nar_char _) W104 1 rfl (Nat.le_of_ble_eq_true rfl)
    have Vn104 : Arv Z h104 b93 k93 .char (2 : Int32) [(.int r_3), (.int r_7)] (.int 0) := by have q := V104; rw [own_nr hok_7] at q; exact q
    have N104 := Fr.snoc X104 N98 g_b93
    have O_104 := O_98.wr W104 g_b93
    refine GoesW.step (B := T104.setTop (mkF m 108 #[.val (.int i0), .val (.int i1), .val (.int i2), .val (.int i3), .val (.int i4), .val (.int i5), .val (.ref b1), .val (.int 2), .unset, .unset, .unset, .unset, .unset] [(.ref b93)])) st104 ?_
    refine GoesW.step (fun _ k => pw_astore X104.here hx (l' := #[.val (.int i0), .val (.int i1), .val (.int i2), .val (.int i3), .val (.int i4), .val (.int i5), .val (.ref b1), .val (.int 2), .val (.ref b93), .unset, .unset, .unset, .unset]) (hb hby at_108) rfl rfl _ (pw_goto X104.here hx (pc' := 230) (hb hby at_110) (by decide) (by decide) _ k)) ?_
    obtain ⟨T108, h108, X108, e108, E108, A108, D108, -, st108⟩ := newO X104 hx hZ hown (own_w5 hw) (own_w6 hw) (own_w7 hw) e104 (g := (mkF m 230 #[.val (.int i0), .val (.int i1), .val (.int i2), .val (.int i3), .val (.int i4), .val (.int i5), .val (.ref b1), .val (.int 2), .val (.ref b93), .unset, .unset, .unset, .unset] [])) rfl (hb hby at_230) (by decide) (by decide)
    obtain ⟨b108, g108⟩ : ∃ z, z = h104.size := ⟨_, rfl⟩
    rw [← g108] at A108 D108 st108
    have f109 := (f102.other W104 ne_b1_b93)
    have ne_b1_b108 : b1 ≠ b108 := Nat.ne_of_lt (Nat.lt_of_lt_of_le f109.lt (Nat.le_of_eq g108.symm))
    have ne_b93_b108 : b93 ≠ b108 := Nat.ne_of_lt (Nat.lt_of_lt_of_le Vn104.lt (Nat.le_of_eq g108.symm))
    have g_b108 : n0 ≤ b108 := Nat.le_trans (own_z O_104) (Nat.le_of_eq g108.symm)
    have Sf_b108 := Safe.ext E108 CH107.1 (Safe.new (Nat.le_of_eq g108.symm))
    have Sf110 := Safe.ext E108 CH107.1 Sf105
    have Sf111 := Safe.ext E108 CH107.1 Sf106
    have CH112 := CH107.trans (CHr.ext E108 CH107.1)
    have O_108 := O_104.ext E108
    have F108_coder : Fld Z h108 b108 "java/lang/String" "coder" "B" (.int 0) := D108 (Or.inr (own_w31 hw)) (ty := .byte) (by decide)
    have F108_value : Fld Z h108 b108 "java/lang/String" "value" "[B" .null := D108 (Or.inr (own_w33 hw)) (ty := (.array .byte)) (by decide)
    refine GoesW.step (B := T108.setTop (mkF m 233 #[.val (.int i0), .val (.int i1), .val (.int i2), .val (.int i3), .val (.int i4), .val (.int i5), .val (.ref b1), .val (.int 2), .val (.ref b93), .unset, .unset, .unset, .unset] [(.ref b108)])) st108 ?_
    refine GoesW.step (fun _ k => pw_dup X108.here hx (hb hby at_233) rfl _ (pw_aload X108.here hx (hb hby at_234) rfl rfl _ k)) ?_
    have f114 := (Vn104.ext E108)
    have f115 := S_COMPACT_STRINGS.ext O_108.2
    obtain ⟨_, _, ⟨T113, qL113, qk113, qn113⟩, -, X113, ⟨Lc113, hQ113, ql113, qy113, qz113⟩, st113⟩ := X108.specialBack hx (y := (⟨"java/lang/String", "<init>", "([C)V"⟩ : MethodName)) rfl hown (mvT hZ (own_w8 hw)) (mvT hZ (own_w9 hw)) (mvT hZ (own_w10 hw)) (by decide) (backOf (W := 1) (rmSI_2 l Z a0 hw [] b108 b93 k93 cs r_3 r_7 h108 n0 O_108 A108 g_b108 F108_value F108_coder f114 f115 hcs hok_3 hok_7) hZ (own_w10 hw) (own_w7 hw) (by decide) (by decide)) (g := (mkF m 236 #[.val (.int i0), .val (.int i1), .val (.int i2), .val (.int i3), .val (.int i4), .val (.int i5), .val (.ref b1), .val (.int 2), .val (.ref b93), .unset, .unset, .unset, .unset] [(.ref b93), (.ref b108), (.ref b108)])) rfl (by rw [hml]; rfl) (Steps.refl _) (a := b108) (argsL := [(.ref b93)]) (rest := [(.ref b108)]) (lenOf pd_22 rfl) rfl (by show 2 * 0 + _ ≤ _; exact Nat.le_of_eq rfl) (hb hby at_236) (fun _ _ => ⟨rfl, e108, (by decide : 3 + 1 ≤ _), (by decide : 11 + 2 ≤ _)⟩)
    dsimp only [Pt.U, Pt.locs, Pt.cells, Pt.slots] at X113 ql113 qy113 qz113 st113 hQ113
    rw [ql113, qy113, qz113] at X113
    obtain ⟨rfl, Nq113, Kp113, Ex113, sv113, sk113, Fsv113, Fsc113, Vsv113⟩ := hQ113
    have Sf116 := Safe.keep Kp113 (sfS Sf_b108 sf0) CH112.1 Sf110
    have Sf117 := Safe.keep Kp113 (sfS Sf_b108 sf0) CH112.1 Sf111
    have Sf118 := Safe.keep Kp113 (sfS Sf_b108 sf0) CH112.1 Sf_b108
    have CH119 := CH112.trans (CHr.keep Kp113 (sfS Sf_b108 sf0) CH112.1)
    have O_113 := O_108.keep Kp113 (allS g_b108 all0)
    have N113 := Fr.app N104 Nq113
    refine GoesW.via (B := T113.setTop (mkF m 239 #[.val (.int i0), .val (.int i1), .val (.int i2), .val (.int i3), .val (.int i4), .val (.int i5), .val (.ref b1), .val (.int 2), .val (.ref b93), .unset, .unset, .unset, .unset] [(.ref b108)])) st113 ?_
    refine GoesW.step (fun _ k => pw_astore X113.here hx (l' := #[.val (.int i0), .val (.int i1), .val (.int i2), .val (.int i3), .val (.int i4), .val (.int i5), .val (.ref b1), .val (.int 2), .val (.ref b93), .val (.ref b108), .unset, .unset, .unset]) (hb hby at_239) rfl rfl _ (pw_aload X113.here hx (hb hby at_241) rfl rfl _ k)) ?_
    have f121 := S_COMPACT_STRINGS.ext O_113.2
    obtain ⟨_, vw120, ⟨T120, qL120, qk120, qn120⟩, -, Xr120, S2120, sz120, ⟨Lc120, hQ120, ql120, qy120, qz120, Hc120⟩, st120⟩ := callSS X113 hx (y := (⟨"com/example/partwright/partwright/reader/FormPart", "lastPathComponent", "(Ljava/lang/String;)Ljava/lang/String;"⟩ : MethodName)) hown (mvT hZ (own_w34 hw)) (mvT hZ (own_w35 hw)) (mvT hZ (own_w36 hw)) (mvT hZ (own_w37 hw)) (by decide) (backOfSH (W := 0) (rmLP l Z a0 hw [] b108 sv113 sk113 (2 : Int32) [(own_b r_3), (own_b r_7)] cs fm T113.heap n0 O_113 FS Ex113 Fsc113 Fsv113 Vsv113 rfl (by decide)) hZ (own_w37 hw) (own_w36 hw) (by decide) (by decide) (own_EW hw) CH119.1) (g := (mkF m 243 #[.val (.int i0), .val (.int i1), .val (.int i2), .val (.int i3), .val (.int i4), .val (.int i5), .val (.ref b1), .val (.int 2), .val (.ref b93), .val (.ref b108), .unset, .unset, .unset] [(.ref b108)])) rfl (by rw [hml]; rfl) (argsL := [(.ref b108)]) (rest := []) (lenOf pd_23 rfl) rfl (by show 2 * 0 + _ ≤ _; exact Nat.le_of_eq rfl) (hb hby at_243) (fun _ _ => ⟨rfl, rfl, (by decide : 4 + 2 ≤ _), (by decide : 13 + 9 ≤ _)⟩)
    dsimp only [Pt.U, Pt.locs, Pt.cells, Pt.slots] at Xr120 S2120 sz120 ql120 qy120 qz120 st120 hQ120 Hc120
    rw [ql120, qy120, qz120] at Xr120
    obtain ⟨X120, hS120, hZ120, hown120⟩ := rebS hS0 (by exact (Nat.le_trans (Nat.le_trans (Nat.le_trans (Nat.le_trans (Nat.le_trans (Nat.le_trans (Nat.le_trans (Nat.le_trans (Nat.le_trans (Nat.le_trans (Nat.le_trans (Nat.le_refl _) E1.1) (Nat.le_of_eq W4.size.symm)) (Nat.le_of_eq W8.size.symm)) (Nat.le_of_eq W12.size.symm)) (Nat.le_of_eq W16.size.symm)) (Nat.le_of_eq W20.size.symm)) E93.1) (Nat.le_of_eq W98.size.symm)) (Nat.le_of_eq W104.size.symm)) E108.1) Kp113.1)) Xr120 S2120 sz120 hZ hown
    have CHc120 := CH119.trans Hc120
    obtain ⟨r120, vb120, kv120, mm120, bb120, rfl, Nq120, Kp120, hbb120, hmm120, Er120, Fv120, Fc120, Vr120⟩ := hQ120
    have f123 := ((f109.ext E108).keep Kp113 (ninS ne_b1_b108 nin0))
    have Sf122 := CHr.safe Hc120 f123.lt Sf116
    have f125 := (f114.keep Kp113 (ninS ne_b93_b108 nin0))
    have Sf124 := CHr.safe Hc120 f125.lt Sf117
    have Sf126 := CHr.safe Hc120 Ex113.lt Sf118
    have O_120 := O_113.keep Kp120 all0
    have N120 := Fr.app N113 Nq120
    refine GoesW.via (B := T120.setTop (mkF m 246 #[.val (.int i0), .val (.int i1), .val (.int i2), .val (.int i3), .val (.int i4), .val (.int i5), .val (.ref b1), .val (.int 2), .val (.ref b93), .val (.ref b108), .unset, .unset, .unset] [(.ref r120)])) st120 ?_
    refine GoesW.step (fun _ k => pw_astore X120.here hx (l' := #[.val (.int i0), .val (.int i1), .val (.int i2), .val (.int i3), .val (.int i4), .val (.int i5), .val (.ref b1), .val (.int 2), .val (.ref b93), .val (.ref b108), .val (.ref r120), .unset, .unset]) (hb hby at_246) rfl rfl _ (pw_iconst X120.here hx (v := (-1 : Int32)) (hb hby at_248) rfl _ (pw_istore X120.here hx (l' := #[.val (.int i0), .val (.int i1), .val (.int i2), .val (.int i3), .val (.int i4), .val (.int i5), .val (.ref b1), .val (.int 2), .val (.ref b93), .val (.ref b108), .val (.ref r120), .val (.int (-1)), .unset]) (hb hby at_249) rfl _ (pw_iload X120.here hx (hb hby at_251) rfl _ (pw_ifNo X120.here hx (hb hby at_253) ((if0 _ _).trans (tlt (by decide)).2.2.2) _ (pw_aload X120.here hx (hb hby at_256) rfl rfl _ k)))))) ?_
    refine GoesW.step (fun _ k => pw_iconst X120.here hx (v := (0 : Int32)) (hb hby at_258) rfl _ k) ?_
    have f127 := (f123.keep Kp120 nin0)
    obtain ⟨c128, Ar128, -, Sz128, Nn128, Hs128, -⟩ := id f127
    have hin128 : ¬ ((0 : Int32) < 0 ∨ c128.slots.size ≤ ((0 : Int32)).toNatClampNeg) := inb_of Sz128 ⟨by decide, by decide⟩
    refine GoesW.step (B := T120.setTop (mkF m 260 #[.val (.int i0), .val (.int i1), .val (.int i2), .val (.int i3), .val (.int i4), .val (.int i5), .val (.ref b1), .val (.int 2), .val (.ref b93), .val (.ref b108), .val (.ref r120), .val (.int (-1)), .unset] [(.int r_3)])) (X120.caload hx (j := (0 : Int32)) (v := (.int r_3)) (by exact Ar128.1) (State.isArrayOf_alike hZ120.alike Ar128.2.1) Ar128.2.2 hin128 (Has.at Hs128 hin128 rfl) (g := (mkF m 259 #[.val (.int i0), .val (.int i1), .val (.int i2), .val (.int i3), .val (.int i4), .val (.int i5), .val (.ref b1), .val (.int 2), .val (.ref b93), .val (.ref b108), .val (.ref r120), .val (.int (-1)), .unset] [(.int 0), (.ref b1)])) rfl rfl (hb hby at_259)) ?_
    obtain ⟨_, _, ⟨T129, qL129, qk129, qn129⟩, -, X129, ⟨Lc129, hQ129, ql129, qy129, qz129⟩, st129⟩ := Jvm.LawKit.callS X120 hx (y := (⟨"com/example/partwright/partwright/reader/FormPartLastPathComponentPinLaw", "sep", "(C)Z"⟩ : MethodName)) hown120 (mvT hZ120 (own_w117 hw)) (mvT hZ120 (own_w118 hw)) (mvT hZ120 (own_w3 hw)) (mvT hZ120 (own_w119 hw)) (by decide) (backOf (W := 0) (rm27 l Z a0 hw [] r_3 T120.heap n0 O_120 ) hZ120 (own_w119 hw) (own_w3 hw) (by decide) (by decide)) (g := (mkF m 260 #[.val (.int i0), .val (.int i1), .val (.int i2), .val (.int i3), .val (.int i4), .val (.int i5), .val (.ref b1), .val (.int 2), .val (.ref b93), .val (.ref b108), .val (.ref r120), .val (.int (-1)), .unset] [(.int r_3)])) rfl (by rw [hml]; rfl) (argsL := [(.int r_3)]) (rest := []) (lenOf pd_25 rfl) rfl (by show 2 * 0 + _ ≤ _; exact Nat.le_of_eq rfl) (hb hby at_260) (fun _ _ => ⟨rfl, rfl, (by decide : 6 + 0 ≤ _), (by decide : 22 + 0 ≤ _)⟩)
    dsimp only [Pt.U, Pt.locs, Pt.cells, Pt.slots] at X129 ql129 qy129 qz129 st129 hQ129
    rw [ql129, qy129, qz129] at X129
    obtain ⟨rfl, Nq129, eh129⟩ := hQ129
    have N129 := Fr.app N120 Nq129
    refine GoesW.step (B := T129.setTop (mkF m 263 #[.val (.int i0), .val (.int i1), .val (.int i2), .val (.int i3), .val (.int i4), .val (.int i5), .val (.ref b1), .val (.int 2), .val (.ref b93), .val (.ref b108), .val (.ref r120), .val (.int (-1)), .unset] [(.int (own_sep r_3))])) st129 ?_
    have J130 : ∀ (kj0 : Int32), kj0 = own_k1 r_3 → GoesW p e below s (Q0 Z i0 i1 i2 i3 i4 i5 cs fm h0 n0) room_1.cells room_1.slots (T129.setTop (mkF m 269 #[.val (.int i0), .val (.int i1), .val (.int i2), .val (.int i3), .val (.int i4), .val (.int i5), .val (.ref b1), .val (.int 2), .val (.ref b93), .val (.ref b108), .val (.ref r120), .val (.int kj0), .unset] [])) := by
     intro kj0 hkj0
     refine GoesW.step (fun _ k => pw_iload X129.here hx (hb hby at_269) rfl _ (pw_iconst X129.here hx (v := (1 : Int32)) (hb hby at_271) rfl _ (pw_icmpNo X129.here hx (hb hby at_272) (tlt (by decide)).2.2.2 _ (pw_aload X129.here hx (hb hby at_275) rfl rfl _ (pw_iconst X129.here hx (v := (1 : Int32)) (hb hby at_277) rfl _ k))))) ?_
     obtain ⟨c131, Ar131, -, Sz131, Nn131, Hs131, -⟩ := id f127
     have hin131 : ¬ ((1 : Int32) < 0 ∨ c131.slots.size ≤ ((1 : Int32)).toNatClampNeg) := inb_of Sz131 ⟨by decide, by decide⟩
     refine GoesW.step (B := T129.setTop (mkF m 279 #[.val (.int i0), .val (.int i1), .val (.int i2), .val (.int i3), .val (.int i4), .val (.int i5), .val (.ref b1), .val (.int 2), .val (.ref b93), .val (.ref b108), .val (.ref r120), .val (.int kj0), .unset] [(.int r_7)])) (X129.caload hx (j := (1 : Int32)) (v := (.int r_7)) (by rw [eh129]; exact Ar131.1) (State.isArrayOf_alike hZ120.alike Ar131.2.1) Ar131.2.2 hin131 (Has.at Hs131 hin131 rfl) (g := (mkF m 278 #[.val (.int i0), .val (.int i1), .val (.int i2), .val (.int i3), .val (.int i4), .val (.int i5), .val (.ref b1), .val (.int 2), .val (.ref b93), .val (.ref b108), .val (.ref r120), .val (.int kj0), .unset] [(.int 1), (.ref b1)])) rfl rfl (hb hby at_278)) ?_
     obtain ⟨_, _, ⟨T132, qL132, qk132, qn132⟩, -, X132, ⟨Lc132, hQ132, ql132, qy132, qz132⟩, st132⟩ := Jvm.LawKit.callS X129 hx (y := (⟨"com/example/partwright/partwright/reader/FormPartLastPathComponentPinLaw", "sep", "(C)Z"⟩ : MethodName)) hown120 (mvT hZ120 (own_w117 hw)) (mvT hZ120 (own_w118 hw)) (mvT hZ120 (own_w3 hw)) (mvT hZ120 (own_w119 hw)) (by decide) (backOf (W := 0) (rm27 l Z a0 hw [] r_7 T120.heap n0 O_120 ) hZ120 (own_w119 hw) (own_w3 hw) (by decide) (by decide)) (g := (mkF m 279 #[.val (.int i0), .val (.int i1), .val (.int i2), .val (.int i3), .val (.int i4), .val (.int i5), .val (.ref b1), .val (.int 2), .val (.ref b93), .val (.ref b108), .val (.ref r120), .val (.int kj0), .unset] [(.int r_7)])) rfl (by rw [hml]; rfl) (argsL := [(.int r_7)]) (rest := []) (lenOf pd_25 rfl) rfl (by show 2 * 0 + _ ≤ _; exact Nat.le_of_eq rfl) (hb hby at_279) (fun _ _ => ⟨rfl, eh129, (by decide : 6 + 0 ≤ _), (by decide : 22 + 0 ≤ _)⟩)
     dsimp only [Pt.U, Pt.locs, Pt.cells, Pt.slots] at X132 ql132 qy132 qz132 st132 hQ132
     rw [ql132, qy132, qz132] at X132
     obtain ⟨rfl, Nq132, eh132⟩ := hQ132
     have N132 := Fr.app N129 Nq132
     refine GoesW.step (B := T132.setTop (mkF m 282 #[.val (.int i0), .val (.int i1), .val (.int i2), .val (.int i3), .val (.int i4), .val (.int i5), .val (.ref b1), .val (.int 2), .val (.ref b93), .val (.ref b108), .val (.ref r120), .val (.int kj0), .unset] [(.int (own_sep r_7))])) st132 ?_
     have J133 : ∀ (kj1 : Int32), kj1 = own_k2 r_3 r_7 → GoesW p e below s (Q0 Z i0 i1 i2 i3 i4 i5 cs fm h0 n0) room_1.cells room_1.slots (T132.setTop (mkF m 288 #[.val (.int i0), .val (.int i1), .val (.int i2), .val (.int i3), .val (.int i4), .val (.int i5), .val (.ref b1), .val (.int 2), .val (.ref b93), .val (.ref b108), .val (.ref r120), .val (.int kj1), .unset] [])) := by
      intro kj1 hkj1
      refine GoesW.step (fun _ k => pw_iload X132.here hx (hb hby at_288) rfl _ (pw_iconst X132.here hx (v := (2 : Int32)) (hb hby at_290) rfl _ (pw_icmpYes X132.here hx (pc' := 307) (hb hby at_291) (flt (by decide)).2.2.2 (by decide) (by decide) _ (pw_iload X132.here hx (hb hby at_307) rfl _ (pw_iconst X132.here hx (v := (3 : Int32)) (hb hby at_309) rfl _ (pw_icmpYes X132.here hx (pc' := 326) (hb hby at_310) (flt (by decide)).2.2.2 (by decide) (by decide) _ k)))))) ?_
      refine GoesW.step (fun _ k => pw_iload X132.here hx (hb hby at_326) rfl _ (pw_iconst X132.here hx (v := (4 : Int32)) (hb hby at_328) rfl _ (pw_icmpYes X132.here hx (pc' := 345) (hb hby at_329) (flt (by decide)).2.2.2 (by decide) (by decide) _ k))) ?_
      have hke : kj1 = own_k2 r_3 r_7 := hkj1
      have heq : own_max (own_lix (47 : Int32) [(own_b r_3), (own_b r_7)]) (own_lix (92 : Int32) [(own_b r_3), (own_b r_7)]) = own_k2 r_3 r_7 := own_eq2 hok_3 hok_7
      have hkb : -1 ≤ (kj1 : Int32).toInt ∧ (kj1 : Int32).toInt < 2 := by rw [hke, ← heq]; exact own_mb2 (own_b r_3) (own_b r_7) 47 92
      have hbk : bb120 = kj1 + 1 := by rw [hbb120, heq, hke]
      have hme := own_m2 hkb hbk hmm120
      refine GoesW.step (fun _ k => pw_iload X132.here hx (hb hby at_345) rfl _ (pw_iload X132.here hx (hb hby at_347) rfl _ (pw_isub X132.here hx (hb hby at_349) _ (pw_iconst X132.here hx (v := (1 : Int32)) (hb hby at_350) rfl _ (pw_isub X132.here hx (hb hby at_351) _ (pw_istore X132.here hx (l' := #[.val (.int i0), .val (.int i1), .val (.int i2), .val (.int i3), .val (.int i4), .val (.int i5), .val (.ref b1), .val (.int 2), .val (.ref b93), .val (.ref b108), .val (.ref r120), .val (.int kj1), .val (.int (((2 : Int32) - kj1) - (1 : Int32)))]) (hb hby at_352) rfl _ k)))))) ?_
      refine GoesW.step (fun _ k => pw_aload X132.here hx (hb hby at_354) rfl rfl _ k) ?_
      have f135 := S_COMPACT_STRINGS.ext O_120.2
      obtain ⟨cq134, kq134, qa134, qb134, qc134⟩ := isOf hZ120 eh132 Er120
      obtain ⟨_, _, ⟨T134, qL134, qk134, qn134⟩, -, X134, ⟨Lc134, hQ134, ql134, qy134, qz134⟩, st134⟩ := X132.virtualBack hx (y := (⟨"java/lang/String", "length", "()I"⟩ : MethodName)) (z := (⟨"java/lang/String", "length", "()I"⟩ : MethodName)) hown120 (mvT hZ120 (own_w120 hw)) (mvT hZ120 (own_w44 hw)) (notFace_of_selects (args := #[]) (mvT hZ120 (own_w46 hw))) (mvT hZ120 (own_w46 hw)) (mvT hZ120 (own_w45 hw)) (by decide) (backOf (W := 0) (rm10 l Z a0 hw [] r120 vb120 kv120 mm120 (own_sub [(own_b r_3), (own_b r_7)] bb120 mm120) cs T120.heap n0 O_120 f135 hcs Er120 Fc120 Fv120 Vr120) hZ120 (own_w47 hw) (own_w7 hw) (by decide) (by decide)) qa134 qc134 (g := (mkF m 356 #[.val (.int i0), .val (.int i1), .val (.int i2), .val (.int i3), .val (.int i4), .val (.int i5), .val (.ref b1), .val (.int 2), .val (.ref b93), .val (.ref b108), .val (.ref r120), .val (.int kj1), .val (.int (((2 : Int32) - kj1) - (1 : Int32)))] [(.ref r120)])) rfl (by rw [hml]; rfl) (Steps.refl _) (argsL := []) (rest := []) (lenOf pd_13 rfl) rfl (by show 2 * 0 + _ ≤ _; exact Nat.le_of_eq rfl) (hb hby at_356) (fun _ _ => ⟨rfl, eh132, (by decide : 6 + 0 ≤ _), (by decide : 22 + 0 ≤ _)⟩)
      dsimp only [Pt.U, Pt.locs, Pt.cells, Pt.slots] at X134 ql134 qy134 qz134 st134 hQ134
      rw [ql134, qy134, qz134] at X134
      obtain ⟨rfl, Nq134, eh134⟩ := hQ134
      have N134 := Fr.app N132 Nq134
      refine GoesW.via (B := T134.setTop (mkF m 359 #[.val (.int i0), .val (.int i1), .val (.int i2), .val (.int i3), .val (.int i4), .val (.int i5), .val (.ref b1), .val (.int 2), .val (.ref b93), .val (.ref b108), .val (.ref r120), .val (.int kj1), .val (.int (((2 : Int32) - kj1) - (1 : Int32)))] [(.int mm120)])) st134 ?_
      refine GoesW.step (fun _ k => pw_iload X134.here hx (hb hby at_359) rfl _ (pw_icmpYes X134.here hx (pc' := 366) (hb hby at_361) (teq (by rw [hme])).1 (by decide) (by decide) _ (pw_aload X134.here hx (hb hby at_366) rfl rfl _ (pw_iconst X134.here hx (v := (0 : Int32)) (hb hby at_368) rfl _ (pw_iload X134.here hx (hb hby at_369) rfl _ (pw_aload X134.here hx (hb hby at_371) rfl rfl _ k)))))) ?_
      refine GoesW.step (fun _ k => pw_iload X134.here hx (hb hby at_373) rfl _ (pw_iconst X134.here hx (v := (1 : Int32)) (hb hby at_375) rfl _ (pw_iadd X134.here hx (hb hby at_376) _ k))) ?_
      obtain ⟨_, _, ⟨T136, qL136, qk136, qn136⟩, -, X136, ⟨Lc136, hQ136, ql136, qy136, qz136⟩, st136⟩ := Jvm.LawKit.callS X134 hx (y := (⟨"com/example/partwright/partwright/reader/FormPartLastPathComponentPinLaw", "at", "(Ljava/lang/String;II[CI)Z"⟩ : MethodName)) hown120 (mvT hZ120 (own_w121 hw)) (mvT hZ120 (own_w122 hw)) (mvT hZ120 (own_w3 hw)) (mvT hZ120 (own_w123 hw)) (by decide) (backOf (W := 0) (rmAt l Z a0 hw [] r120 vb120 kv120 mm120 (own_sub [(own_b r_3), (own_b r_7)] bb120 mm120) b1 k1 r_3 r_7 r_11 r_15 r_19 (0 : Int32) (((2 : Int32) - kj1) - (1 : Int32)) (kj1 + (1 : Int32)) cs fm T120.heap n0 O_120 FS Er120 Fc120 Fv120 Vr120 f127 (own_hat2 hok_3 hok_7 hkb hbk hmm120 (by decide) (by decide))) hZ120 (own_w123 hw) (own_w3 hw) (by decide) (by decide)) (g := (mkF m 377 #[.val (.int i0), .val (.int i1), .val (.int i2), .val (.int i3), .val (.int i4), .val (.int i5), .val (.ref b1), .val (.int 2), .val (.ref b93), .val (.ref b108), .val (.ref r120), .val (.int kj1), .val (.int (((2 : Int32) - kj1) - (1 : Int32)))] [(.int (kj1 + (1 : Int32))), (.ref b1), (.int (((2 : Int32) - kj1) - (1 : Int32))), (.int 0), (.ref r120)])) rfl (by rw [hml]; rfl) (argsL := [(.ref r120), (.int 0), (.int (((2 : Int32) - kj1) - (1 : Int32))), (.ref b1), (.int (kj1 + (1 : Int32)))]) (rest := []) (lenOf pd_24 rfl) rfl (by show 2 * 0 + _ ≤ _; exact Nat.le_of_eq rfl) (hb hby at_377) (fun _ _ => ⟨rfl, eh134, (by decide : 6 + 0 ≤ _), (by decide : 22 + 0 ≤ _)⟩)
      dsimp only [Pt.U, Pt.locs, Pt.cells, Pt.slots] at X136 ql136 qy136 qz136 st136 hQ136
      rw [ql136, qy136, qz136] at X136
      obtain ⟨rfl, Nq136, eh136⟩ := hQ136
      have N136 := Fr.app N134 Nq136
      refine GoesW.step (B := T136.setTop (mkF m 380 #[.val (.int i0), .val (.int i1), .val (.int i2), .val (.int i3), .val (.int i4), .val (.int i5), .val (.ref b1), .val (.int 2), .val (.ref b93), .val (.ref b108), .val (.ref r120), .val (.int kj1), .val (.int (((2 : Int32) - kj1) - (1 : Int32)))] [(.int 1)])) st136 ?_
      refine GoesW.step (fun _ k => pw_ifNo X136.here hx (hb hby at_380) ((if0 _ _).trans (feq (by decide)).1) _ (pw_aload X136.here hx (hb hby at_383) rfl rfl _ (pw_iconst X136.here hx (v := (1 : Int32)) (hb hby at_385) rfl _ (pw_iload X136.here hx (hb hby at_386) rfl _ (pw_aload X136.here hx (hb hby at_388) rfl rfl _ (pw_iload X136.here hx (hb hby at_390) rfl _ k)))))) ?_
      refine GoesW.step (fun _ k => pw_iconst X136.here hx (v := (1 : Int32)) (hb hby at_392) rfl _ (pw_iadd X136.here hx (hb hby at_393) _ k)) ?_
      obtain ⟨_, _, ⟨T137, qL137, qk137, qn137⟩, -, X137, ⟨Lc137, hQ137, ql137, qy137, qz137⟩, st137⟩ := Jvm.LawKit.callS X136 hx (y := (⟨"com/example/partwright/partwright/reader/FormPartLastPathComponentPinLaw", "at", "(Ljava/lang/String;II[CI)Z"⟩ : MethodName)) hown120 (mvT hZ120 (own_w121 hw)) (mvT hZ120 (own_w122 hw)) (mvT hZ120 (own_w3 hw)) (mvT hZ120 (own_w123 hw)) (by decide) (backOf (W := 0) (rmAt l Z a0 hw [] r120 vb120 kv120 mm120 (own_sub [(own_b r_3), (own_b r_7)] bb120 mm120) b1 k1 r_3 r_7 r_11 r_15 r_19 (1 : Int32) (((2 : Int32) - kj1) - (1 : Int32)) (kj1 + (1 : Int32)) cs fm T120.heap n0 O_120 FS Er120 Fc120 Fv120 Vr120 f127 (own_hat2 hok_3 hok_7 hkb hbk hmm120 (by decide) (by decide))) hZ120 (own_w123 hw) (own_w3 hw) (by decide) (by decide)) (g := (mkF m 394 #[.val (.int i0), .val (.int i1), .val (.int i2), .val (.int i3), .val (.int i4), .val (.int i5), .val (.ref b1), .val (.int 2), .val (.ref b93), .val (.ref b108), .val (.ref r120), .val (.int kj1), .val (.int (((2 : Int32) - kj1) - (1 : Int32)))] [(.int (kj1 + (1 : Int32))), (.ref b1), (.int (((2 : Int32) - kj1) - (1 : Int32))), (.int 1), (.ref r120)])) rfl (by rw [hml]; rfl) (argsL := [(.ref r120), (.int 1), (.int (((2 : Int32) - kj1) - (1 : Int32))), (.ref b1), (.int (kj1 + (1 : Int32)))]) (rest := []) (lenOf pd_24 rfl) rfl (by show 2 * 0 + _ ≤ _; exact Nat.le_of_eq rfl) (hb hby at_394) (fun _ _ => ⟨rfl, eh136, (by decide : 6 + 0 ≤ _), (by decide : 22 + 0 ≤ _)⟩)
      dsimp only [Pt.U, Pt.locs, Pt.cells, Pt.slots] at X137 ql137 qy137 qz137 st137 hQ137
      rw [ql137, qy137, qz137] at X137
      obtain ⟨rfl, Nq137, eh137⟩ := hQ137
      have N137 := Fr.app N136 Nq137
      refine GoesW.step (B := T137.setTop (mkF m 397 #[.val (.int i0), .val (.int i1), .val (.int i2), .val (.int i3), .val (.int i4), .val (.int i5), .val (.ref b1), .val (.int 2), .val (.ref b93), .val (.ref b108), .val (.ref r120), .val (.int kj1), .val (.int (((2 : Int32) - kj1) - (1 : Int32)))] [(.int 1)])) st137 ?_
      refine GoesW.step (fun _ k => pw_ifNo X137.here hx (hb hby at_397) ((if0 _ _).trans (feq (by decide)).1) _ (pw_aload X137.here hx (hb hby at_400) rfl rfl _ (pw_iconst X137.here hx (v := (2 : Int32)) (hb hby at_402) rfl _ (pw_iload X137.here hx (hb hby at_403) rfl _ (pw_aload X137.here hx (hb hby at_405) rfl rfl _ (pw_iload X137.here hx (hb hby at_407) rfl _ k)))))) ?_
      refine GoesW.step (fun _ k => pw_iconst X137.here hx (v := (1 : Int32)) (hb hby at_409) rfl _ (pw_iadd X137.here hx (hb hby at_410) _ k)) ?_
      obtain ⟨_, _, ⟨T138, qL138, qk138, qn138⟩, -, X138, ⟨Lc138, hQ138, ql138, qy138, qz138⟩, st138⟩ := Jvm.LawKit.callS X137 hx (y := (⟨"com/example/partwright/partwright/reader/FormPartLastPathComponentPinLaw", "at", "(Ljava/lang/String;II[CI)Z"⟩ : MethodName)) hown120 (mvT hZ120 (own_w121 hw)) (mvT hZ120 (own_w122 hw)) (mvT hZ120 (own_w3 hw)) (mvT hZ120 (own_w123 hw)) (by decide) (backOf (W := 0) (rmAt l Z a0 hw [] r120 vb120 kv120 mm120 (own_sub [(own_b r_3), (own_b r_7)] bb120 mm120) b1 k1 r_3 r_7 r_11 r_15 r_19 (2 : Int32) (((2 : Int32) - kj1) - (1 : Int32)) (kj1 + (1 : Int32)) cs fm T120.heap n0 O_120 FS Er120 Fc120 Fv120 Vr120 f127 (own_hat2 hok_3 hok_7 hkb hbk hmm120 (by decide) (by decide))) hZ120 (own_w123 hw) (own_w3 hw) (by decide) (by decide)) (g := (mkF m 411 #[.val (.int i0), .val (.int i1), .val (.int i2), .val (.int i3), .val (.int i4), .val (.int i5), .val (.ref b1), .val (.int 2), .val (.ref b93), .val (.ref b108), .val (.ref r120), .val (.int kj1), .val (.int (((2 : Int32) - kj1) - (1 : Int32)))] [(.int (kj1 + (1 : Int32))), (.ref b1), (.int (((2 : Int32) - kj1) - (1 : Int32))), (.int 2), (.ref r120)])) rfl (by rw [hml]; rfl) (argsL := [(.ref r120), (.int 2), (.int (((2 : Int32) - kj1) - (1 : Int32))), (.ref b1), (.int (kj1 + (1 : Int32)))]) (rest := []) (lenOf pd_24 rfl) rfl (by show 2 * 0 + _ ≤ _; exact Nat.le_of_eq rfl) (hb hby at_411) (fun _ _ => ⟨rfl, eh137, (by decide : 6 + 0 ≤ _), (by decide : 22 + 0 ≤ _)⟩)
      dsimp only [Pt.U, Pt.locs, Pt.cells, Pt.slots] at X138 ql138 qy138 qz138 st138 hQ138
      rw [ql138, qy138, qz138] at X138
      obtain ⟨rfl, Nq138, eh138⟩ := hQ138
      have N138 := Fr.app N137 Nq138
      refine GoesW.step (B := T138.setTop (mkF m 414 #[.val (.int i0), .val (.int i1), .val (.int i2), .val (.int i3), .val (.int i4), .val (.int i5), .val (.ref b1), .val (.int 2), .val (.ref b93), .val (.ref b108), .val (.ref r120), .val (.int kj1), .val (.int (((2 : Int32) - kj1) - (1 : Int32)))] [(.int 1)])) st138 ?_
      refine GoesW.step (fun _ k => pw_ifNo X138.here hx (hb hby at_414) ((if0 _ _).trans (feq (by decide)).1) _ (pw_aload X138.here hx (hb hby at_417) rfl rfl _ (pw_iconst X138.here hx (v := (3 : Int32)) (hb hby at_419) rfl _ (pw_iload X138.here hx (hb hby at_420) rfl _ (pw_aload X138.here hx (hb hby at_422) rfl rfl _ (pw_iload X138.here hx (hb hby at_424) rfl _ k)))))) ?_
      refine GoesW.step (fun _ k => pw_iconst X138.here hx (v := (1 : Int32)) (hb hby at_426) rfl _ (pw_iadd X138.here hx (hb hby at_427) _ k)) ?_
      obtain ⟨_, _, ⟨T139, qL139, qk139, qn139⟩, -, X139, ⟨Lc139, hQ139, ql139, qy139, qz139⟩, st139⟩ := Jvm.LawKit.callS X138 hx (y := (⟨"com/example/partwright/partwright/reader/FormPartLastPathComponentPinLaw", "at", "(Ljava/lang/String;II[CI)Z"⟩ : MethodName)) hown120 (mvT hZ120 (own_w121 hw)) (mvT hZ120 (own_w122 hw)) (mvT hZ120 (own_w3 hw)) (mvT hZ120 (own_w123 hw)) (by decide) (backOf (W := 0) (rmAt l Z a0 hw [] r120 vb120 kv120 mm120 (own_sub [(own_b r_3), (own_b r_7)] bb120 mm120) b1 k1 r_3 r_7 r_11 r_15 r_19 (3 : Int32) (((2 : Int32) - kj1) - (1 : Int32)) (kj1 + (1 : Int32)) cs fm T120.heap n0 O_120 FS Er120 Fc120 Fv120 Vr120 f127 (own_hat2 hok_3 hok_7 hkb hbk hmm120 (by decide) (by decide))) hZ120 (own_w123 hw) (own_w3 hw) (by decide) (by decide)) (g := (mkF m 428 #[.val (.int i0), .val (.int i1), .val (.int i2), .val (.int i3), .val (.int i4), .val (.int i5), .val (.ref b1), .val (.int 2), .val (.ref b93), .val (.ref b108), .val (.ref r120), .val (.int kj1), .val (.int (((2 : Int32) - kj1) - (1 : Int32)))] [(.int (kj1 + (1 : Int32))), (.ref b1), (.int (((2 : Int32) - kj1) - (1 : Int32))), (.int 3), (.ref r120)])) rfl (by rw [hml]; rfl) (argsL := [(.ref r120), (.int 3), (.int (((2 : Int32) - kj1) - (1 : Int32))), (.ref b1), (.int (kj1 + (1 : Int32)))]) (rest := []) (lenOf pd_24 rfl) rfl (by show 2 * 0 + _ ≤ _; exact Nat.le_of_eq rfl) (hb hby at_428) (fun _ _ => ⟨rfl, eh138, (by decide : 6 + 0 ≤ _), (by decide : 22 + 0 ≤ _)⟩)
      dsimp only [Pt.U, Pt.locs, Pt.cells, Pt.slots] at X139 ql139 qy139 qz139 st139 hQ139
      rw [ql139, qy139, qz139] at X139
      obtain ⟨rfl, Nq139, eh139⟩ := hQ139
      have N139 := Fr.app N138 Nq139
      refine GoesW.step (B := T139.setTop (mkF m 431 #[.val (.int i0), .val (.int i1), .val (.int i2), .val (.int i3), .val (.int i4), .val (.int i5), .val (.ref b1), .val (.int 2), .val (.ref b93), .val (.ref b108), .val (.ref r120), .val (.int kj1), .val (.int (((2 : Int32) - kj1) - (1 : Int32)))] [(.int 1)])) st139 ?_
      refine GoesW.step (fun _ k => pw_ifNo X139.here hx (hb hby at_431) ((if0 _ _).trans (feq (by decide)).1) _ (pw_aload X139.here hx (hb hby at_434) rfl rfl _ (pw_iconst X139.here hx (v := (4 : Int32)) (hb hby at_436) rfl _ (pw_iload X139.here hx (hb hby at_437) rfl _ (pw_aload X139.here hx (hb hby at_439) rfl rfl _ (pw_iload X139.here hx (hb hby at_441) rfl _ k)))))) ?_
      refine GoesW.step (fun _ k => pw_iconst X139.here hx (v := (1 : Int32)) (hb hby at_443) rfl _ (pw_iadd X139.here hx (hb hby at_444) _ k)) ?_
      obtain ⟨_, _, ⟨T140, qL140, qk140, qn140⟩, -, X140, ⟨Lc140, hQ140, ql140, qy140, qz140⟩, st140⟩ := Jvm.LawKit.callS X139 hx (y := (⟨"com/example/partwright/partwright/reader/FormPartLastPathComponentPinLaw", "at", "(Ljava/lang/String;II[CI)Z"⟩ : MethodName)) hown120 (mvT hZ120 (own_w121 hw)) (mvT hZ120 (own_w122 hw)) (mvT hZ120 (own_w3 hw)) (mvT hZ120 (own_w123 hw)) (by decide) (backOf (W := 0) (rmAt l Z a0 hw [] r120 vb120 kv120 mm120 (own_sub [(own_b r_3), (own_b r_7)] bb120 mm120) b1 k1 r_3 r_7 r_11 r_15 r_19 (4 : Int32) (((2 : Int32) - kj1) - (1 : Int32)) (kj1 + (1 : Int32)) cs fm T120.heap n0 O_120 FS Er120 Fc120 Fv120 Vr120 f127 (own_hat2 hok_3 hok_7 hkb hbk hmm120 (by decide) (by decide))) hZ120 (own_w123 hw) (own_w3 hw) (by decide) (by decide)) (g := (mkF m 445 #[.val (.int i0), .val (.int i1), .val (.int i2), .val (.int i3), .val (.int i4), .val (.int i5), .val (.ref b1), .val (.int 2), .val (.ref b93), .val (.ref b108), .val (.ref r120), .val (.int kj1), .val (.int (((2 : Int32) - kj1) - (1 : Int32)))] [(.int (kj1 + (1 : Int32))), (.ref b1), (.int (((2 : Int32) - kj1) - (1 : Int32))), (.int 4), (.ref r120)])) rfl (by rw [hml]; rfl) (argsL := [(.ref r120), (.int 4), (.int (((2 : Int32) - kj1) - (1 : Int32))), (.ref b1), (.int (kj1 + (1 : Int32)))]) (rest := []) (lenOf pd_24 rfl) rfl (by show 2 * 0 + _ ≤ _; exact Nat.le_of_eq rfl) (hb hby at_445) (fun _ _ => ⟨rfl, eh139, (by decide : 6 + 0 ≤ _), (by decide : 22 + 0 ≤ _)⟩)
      dsimp only [Pt.U, Pt.locs, Pt.cells, Pt.slots] at X140 ql140 qy140 qz140 st140 hQ140
      rw [ql140, qy140, qz140] at X140
      obtain ⟨rfl, Nq140, eh140⟩ := hQ140
      have N140 := Fr.app N139 Nq140
      refine GoesW.step (B := T140.setTop (mkF m 448 #[.val (.int i0), .val (.int i1), .val (.int i2), .val (.int i3), .val (.int i4), .val (.int i5), .val (.ref b1), .val (.int 2), .val (.ref b93), .val (.ref b108), .val (.ref r120), .val (.int kj1), .val (.int (((2 : Int32) - kj1) - (1 : Int32)))] [(.int 1)])) st140 ?_
      refine GoesW.step (fun _ k => pw_ifNo X140.here hx (hb hby at_448) ((if0 _ _).trans (feq (by decide)).1) _ (pw_iconst X140.here hx (v := (1 : Int32)) (hb hby at_451) rfl _ (pw_goto X140.here hx (pc' := 456) (hb hby at_452) (by decide) (by decide) _ k))) ?_
      exact GoesW.retN X140 hS120 (Nat.le_refl _) hx eh140 (t := .boolean) Bd.returns (by simp) hlk (hb hby at_456) (by decide) (by decide) (⟨rfl, N140⟩)
     by_cases hc282_140 : (own_sep r_7) = (0 : Int32)
     · refine GoesW.step (fun _ k => pw_ifYes X132.here hx (pc' := 288) (hb hby at_282) ((if0 _ _).trans (teq hc282_140).1) (by decide) (by decide) _ k) ?_
       exact J133 kj0 (by rw [own_k2, if_pos hc282_140]; exact hkj0)
     · refine GoesW.step (fun _ k => pw_ifNo X132.here hx (hb hby at_282) ((if0 _ _).trans (feq hc282_140).1) _ (pw_iconst X132.here hx (v := (1 : Int32)) (hb hby at_285) rfl _ (pw_istore X132.here hx (l' := #[.val (.int i0), .val (.int i1), .val (.int i2), .val (.int i3), .val (.int i4), .val (.int i5), .val (.ref b1), .val (.int 2), .val (.ref b93), .val (.ref b108), .val (.ref r120), .val (.int 1), .unset]) (hb hby at_286) rfl _ k))) ?_
       exact J133 (1 : Int32) (by rw [own_k2, if_neg hc282_140])
    by_cases hc263_141 : (own_sep r_3) = (0 : Int32)
    · refine GoesW.step (fun _ k => pw_ifYes X129.here hx (pc' := 269) (hb hby at_263) ((if0 _ _).trans (teq hc263_141).1) (by decide) (by decide) _ k) ?_
      exact J130 (-1 : Int32) (by rw [own_k1, if_pos hc263_141]; exact rfl)
    · refine GoesW.step (fun _ k => pw_ifNo X129.here hx (hb hby at_263) ((if0 _ _).trans (feq hc263_141).1) _ (pw_iconst X129.here hx (v := (0 : Int32)) (hb hby at_266) rfl _ (pw_istore X129.here hx (l' := #[.val (.int i0), .val (.int i1), .val (.int i2), .val (.int i3), .val (.int i4), .val (.int i5), .val (.ref b1), .val (.int 2), .val (.ref b93), .val (.ref b108), .val (.ref r120), .val (.int 0), .unset]) (hb hby at_267) rfl _ k))) ?_
      exact J130 (0 : Int32) (by rw [own_k1, if_neg hc263_141])
  · refine GoesW.step (fun _ k => pw_istore X20.here hx (l' := #[.val (.int i0), .val (.int i1), .val (.int i2), .val (.int i3), .val (.int i4), .val (.int i5), .val (.ref b1), .val (.int 3), .unset, .unset, .unset, .unset, .unset]) (hb hby at_49) rfl _ (pw_iload X20.here hx (hb hby at_51) rfl _ (pw_ifYes X20.here hx (pc' := 64) (hb hby at_53) ((if0 _ _).trans (feq (by decide)).2) (by decide) (by decide) _ (pw_iload X20.here hx (hb hby at_64) rfl _ (pw_iconst X20.here hx (v := (1 : Int32)) (hb hby at_66) rfl _ (pw_icmpYes X20.here hx (pc' := 85) (hb hby at_67) (feq (by decide)).2 (by decide) (by decide) _ k)))))) ?_
    refine GoesW.step (fun _ k => pw_iload X20.here hx (hb hby at_85) rfl _ (pw_iconst X20.here hx (v := (2 : Int32)) (hb hby at_87) rfl _ (pw_icmpYes X20.here hx (pc' := 113) (hb hby at_88) (feq (by decide)).2 (by decide) (by decide) _ (pw_iload X20.here hx (hb hby at_113) rfl _ (pw_iconst X20.here hx (v := (3 : Int32)) (hb hby at_115) rfl _ (pw_icmpNo X20.here hx (hb hby at_116) (teq (by decide)).2 _ k)))))) ?_
    refine GoesW.step (fun _ k => pw_iconst X20.here hx (v := (3 : Int32)) (hb hby at_119) rfl _ k) ?_
    obtain ⟨T143, h143, k143, X143, e143, E143, A143, st143⟩ := newP (aty := .char) X20 hx hZ (own_w0 hw) e20 (g := (mkF m 120 #[.val (.int i0), .val (.int i1), .val (.int i2), .val (.int i3), .val (.int i4), .val (.int i5), .val (.ref b1), .val (.int 3), .unset, .unset, .unset, .unset, .unset] [(.int 3)])) rfl (hb hby at_120) rfl (by decide) (cap := 3) (by decide) (by decide) (by decide) (by decide)
    obtain ⟨b143, g143⟩ : ∃ z, z = h20.size := ⟨_, rfl⟩
    rw [← g143] at A143 st143
    have ne_b1_b143 : b1 ≠ b143 := Nat.ne_of_lt (Nat.lt_of_lt_of_le Vn20.lt (Nat.le_of_eq g143.symm))
    have g_b143 : n0 ≤ b143 := Nat.le_trans (own_z O_20) (Nat.le_of_eq g143.symm)
    have Sf_b143 := Safe.ext E143 CH22.1 (Safe.new (Nat.le_of_eq g143.symm))
    have Sf144 := Safe.ext E143 CH22.1 Sf21
    have CH145 := CH22.trans (CHr.ext E143 CH22.1)
    have O_143 := O_20.ext E143
    have V_b143 : Arv Z h143 b143 k143 .char (3 : Int32) [(.int 0), (.int 0), (.int 0)] (.int 0) := (Arv.new A143 (by decide)).pad (pad_rep [] (.int 0) 3)
    refine GoesW.step (B := T143.setTop (mkF m 122 #[.val (.int i0), .val (.int i1), .val (.int i2), .val (.int i3), .val (.int i4), .val (.int i5), .val (.ref b1), .val (.int 3), .unset, .unset, .unset, .unset, .unset] [(.ref b143)])) st143 ?_
    refine GoesW.step (fun _ k => pw_dup X143.here hx (hb hby at_122) rfl _ (pw_iconst X143.here hx (v := (0 : Int32)) (hb hby at_123) rfl _ (pw_aload X143.here hx (hb hby at_124) rfl rfl _ (pw_iconst X143.here hx (v := (0 : Int32)) (hb hby at_126) rfl _ k)))) ?_
    have f146 := (Vn20.ext E143)
    obtain ⟨c147, Ar147, -, Sz147, Nn147, Hs147, -⟩ := id f146
    have hin147 : ¬ ((0 : Int32) < 0 ∨ c147.slots.size ≤ ((0 : Int32)).toNatClampNeg) := inb_of Sz147 ⟨by decide, by decide⟩
    refine GoesW.step (B := T143.setTop (mkF m 128 #[.val (.int i0), .val (.int i1), .val (.int i2), .val (.int i3), .val (.int i4), .val (.int i5), .val (.ref b1), .val (.int 3), .unset, .unset, .unset, .unset, .unset] [(.int r_3), (.int 0), (.ref b143), (.ref b143)])) (X143.caload hx (j := (0 : Int32)) (v := (.int r_3)) (by rw [e143]; exact Ar147.1) (State.isArrayOf_alike hZ.alike Ar147.2.1) Ar147.2.2 hin147 (Has.at Hs147 hin147 rfl) (g := (mkF m 127 #[.val (.int i0), .val (.int i1), .val (.int i2), .val (.int i3), .val (.int i4), .val (.int i5), .val (.ref b1), .val (.int 3), .unset, .unset, .unset, .unset, .unset] [(.int 0), (.ref b1), (.int 0), (.ref b143), (.ref b143)])) rfl rfl (hb hby at_127)) ?_
    obtain ⟨c148, Ar148, q148, Sz148, Nn148, Hs148, Gs148⟩ := id V_b143
    have hin148 : ¬ ((0 : Int32) < 0 ∨ c148.slots.size ≤ ((0 : Int32)).toNatClampNeg) := inb_of Sz148 ⟨by decide, by decide⟩
    obtain ⟨T148, h148, X148, e148, W148, st148⟩ := stC X143 hx hZ e143 Ar148 (j := (0 : Int32)) hin148 (g := (mkF m 128 #[.val (.int i0), .val (.int i1), .val (.int i2), .val (.int i3), .val (.int i4), .val (.int i5), .val (.ref b1), .val (.int 3), .unset, .unset, .unset, .unset, .unset] [(.int r_3), (.int 0), (.ref b143), (.ref b143)])) rfl rfl (hb hby at_128)
    have Sf149 := Safe.wr W148 Sf_b143 CH145.1 Sf144
    have Sf150 := Safe.wr W148 Sf_b143 CH145.1 Sf_b143
    have CH151 := CH145.trans (CHr.wr W148 Sf_b143 CH145.1)
    have V148 : Arv Z h148 b143 k143 .char (3 : Int32) [(.int (nar .char r_3)), (.int 0), (.int 0)] (.int 0) := Arv.set Ar148 q148 Sz148 Nn148 Hs148 Gs148 (fits_nar_char _) W148 0 rfl (Nat.le_of_ble_eq_true rfl)
    have Vn148 : Arv Z h148 b143 k143 .char (3 : Int32) [(.int r_3), (.int 0), (.int 0)] (.int 0) := by have q := V148; rw [own_nr hok_3] at q; exact q
    have N148 := Fr.snoc X148 N20 g_b143
    have O_148 := O_143.wr W148 g_b143
    refine GoesW.step (B := T148.setTop (mkF m 129 #[.val (.int i0), .val (.int i1), .val (.int i2), .val (.int i3), .val (.int i4), .val (.int i5), .val (.ref b1), .val (.int 3), .unset, .unset, .unset, .unset, .unset] [(.ref b143)])) st148 ?_
    refine GoesW.step (fun _ k => pw_dup X148.here hx (hb hby at_129) rfl _ (pw_iconst X148.here hx (v := (1 : Int32)) (hb hby at_130) rfl _ (pw_aload X148.here hx (hb hby at_131) rfl rfl _ (pw_iconst X148.here hx (v := (1 : Int32)) (hb hby at_133) rfl _ k)))) ?_
    have f152 := (f146.other W148 ne_b1_b143)
    obtain ⟨c153, Ar153, -, Sz153, Nn153, Hs153, -⟩ := id f152
    have hin153 : ¬ ((1 : Int32) < 0 ∨ c153.slots.size ≤ ((1 : Int32)).toNatClampNeg) := inb_of Sz153 ⟨by decide, by decide⟩
    refine GoesW.step (B := T148.setTop (mkF m 135 #[.val (.int i0), .val (.int i1), .val (.int i2), .val (.int i3), .val (.int i4), .val (.int i5), .val (.ref b1), .val (.int 3), .unset, .unset, .unset, .unset, .unset] [(.int r_7), (.int 1), (.ref b143), (.ref b143)])) (X148.caload hx (j := (1 : Int32)) (v := (.int r_7)) (by rw [e148]; exact Ar153.1) (State.isArrayOf_alike hZ.alike Ar153.2.1) Ar153.2.2 hin153 (Has.at Hs153 hin153 rfl) (g := (mkF m 134 #[.val (.int i0), .val (.int i1), .val (.int i2), .val (.int i3), .val (.int i4), .val (.int i5), .val (.ref b1), .val (.int 3), .unset, .unset, .unset, .unset, .unset] [(.int 1), (.ref b1), (.int 1), (.ref b143), (.ref b143)])) rfl rfl (hb hby at_134)) ?_
    obtain ⟨c154, Ar154, q154, Sz154, Nn154, Hs154, Gs154⟩ := id Vn148
    have hin154 : ¬ ((1 : Int32) < 0 ∨ c154.slots.size ≤ ((1 : Int32)).toNatClampNeg) := inb_of Sz154 ⟨by decide, by decide⟩
    obtain ⟨T154, h154, X154, e154, W154, st154⟩ := stC X148 hx hZ e148 Ar154 (j := (1 : Int32)) hin154 (g := (mkF m 135 #[.val (.int i0), .val (.int i1), .val (.int i2), .val (.int i3), .val (.int i4), .val (.int i5), .val (.ref b1), .val (.int 3), .unset, .unset, .unset, .unset, .unset] [(.int r_7), (.int 1), (.ref b143), (.ref b143)])) rfl rfl (hb hby at_135)
    have Sf155 := Safe.wr W154 Sf150 CH151.1 Sf149
    have Sf156 := Safe.wr W154 Sf150 CH151.1 Sf150
    have CH157 := CH151.trans (CHr.wr W154 Sf150 CH151.1)
    have V154 : Arv Z h154 b143 k143 .char (3 : Int32) [(.int r_3), (.int (nar .char r_7)), (.int 0)] (.int 0) := Arv.set Ar154 q154 Sz154 Nn154 Hs154 Gs154 (fits_nar_char _) W154 1 rfl (Nat.le_of_ble_eq_true rfl)
    have Vn154 : Arv Z h154 b143 k143 .char (3 : Int32) [(.int r_3), (.int r_7), (.int 0)] (.int 0) := by have q := V154; rw [own_nr hok_7] at q; exact q
    have N154 := Fr.snoc X154 N148 g_b143
    have O_154 := O_148.wr W154 g_b143
    refine GoesW.step (B := T154.setTop (mkF m 136 #[.val (.int i0), .val (.int i1), .val (.int i2), .val (.int i3), .val (.int i4), .val (.int i5), .val (.ref b1), .val (.int 3), .unset, .unset, .unset, .unset, .unset] [(.ref b143)])) st154 ?_
    refine GoesW.step (fun _ k => pw_dup X154.here hx (hb hby at_136) rfl _ (pw_iconst X154.here hx (v := (2 : Int32)) (hb hby at_137) rfl _ (pw_aload X154.here hx (hb hby at_138) rfl rfl _ (pw_iconst X154.here hx (v := (2 : Int32)) (hb hby at_140) rfl _ k)))) ?_
    have f158 := (f152.other W154 ne_b1_b143)
    obtain ⟨c159, Ar159, -, Sz159, Nn159, Hs159, -⟩ := id f158
    have hin159 : ¬ ((2 : Int32) < 0 ∨ c159.slots.size ≤ ((2 : Int32)).toNatClampNeg) := inb_of Sz159 ⟨by decide, by decide⟩
    refine GoesW.step (B := T154.setTop (mkF m 142 #[.val (.int i0), .val (.int i1), .val (.int i2), .val (.int i3), .val (.int i4), .val (.int i5), .val (.ref b1), .val (.int 3), .unset, .unset, .unset, .unset, .unset] [(.int r_11), (.int 2), (.ref b143), (.ref b143)])) (X154.caload hx (j := (2 : Int32)) (v := (.int r_11)) (by rw [e154]; exact Ar159.1) (State.isArrayOf_alike hZ.alike Ar159.2.1) Ar159.2.2 hin159 (Has.at Hs159 hin159 rfl) (g := (mkF m 141 #[.val (.int i0), .val (.int i1), .val (.int i2), .val (.int i3), .val (.int i4), .val (.int i5), .val (.ref b1), .val (.int 3), .unset, .unset, .unset, .unset, .unset] [(.int 2), (.ref b1), (.int 2), (.ref b143), (.ref b143)])) rfl rfl (hb hby at_141)) ?_
    obtain ⟨c160, Ar160, q160, Sz160, Nn160, Hs160, Gs160⟩ := id Vn154
    have hin160 : ¬ ((2 : Int32) < 0 ∨ c160.slots.size ≤ ((2 : Int32)).toNatClampNeg) := inb_of Sz160 ⟨by decide, by decide⟩
    obtain ⟨T160, h160, X160, e160, W160, st160⟩ := stC X154 hx hZ e154 Ar160 (j := (2 : Int32)) hin160 (g := (mkF m 142 #[.val (.int i0), .val (.int i1), .val (.int i2), .val (.int i3), .val (.int i4), .val (.int i5), .val (.ref b1), .val (.int 3), .unset, .unset, .unset, .unset, .unset] [(.int r_11), (.int 2), (.ref b143), (.ref b143)])) rfl rfl (hb hby at_142)
    have Sf161 := Safe.wr W160 Sf156 CH157.1 Sf155
    have Sf162 := Safe.wr W160 Sf156 CH157.1 Sf156
    have CH163 := CH157.trans (CHr.wr W160 Sf156 CH157.1)
    have V160 : Arv Z h160 b143 k143 .char (3 : Int32) [(.int r_3), (.int r_7), (.int (nar .char r_11))] (.int 0) := Arv.set Ar160 q160 Sz160 Nn160 Hs160 Gs160 (fits_nar_char _) W160 2 rfl (Nat.le_of_ble_eq_true rfl)
    have Vn160 : Arv Z h160 b143 k143 .char (3 : Int32) [(.int r_3), (.int r_7), (.int r_11)] (.int 0) := by have q := V160; rw [own_nr hok_11] at q; exact q
    have N160 := Fr.snoc X160 N154 g_b143
    have O_160 := O_154.wr W160 g_b143
    refine GoesW.step (B := T160.setTop (mkF m 143 #[.val (.int i0), .val (.int i1), .val (.int i2), .val (.int i3), .val (.int i4), .val (.int i5), .val (.ref b1), .val (.int 3), .unset, .unset, .unset, .unset, .unset] [(.ref b143)])) st160 ?_
    refine GoesW.step (fun _ k => pw_astore X160.here hx (l' := #[.val (.int i0), .val (.int i1), .val (.int i2), .val (.int i3), .val (.int i4), .val (.int i5), .val (.ref b1), .val (.int 3), .val (.ref b143), .unset, .unset, .unset, .unset]) (hb hby at_143) rfl rfl _ (pw_goto X160.here hx (pc' := 230) (hb hby at_145) (by decide) (by decide) _ k)) ?_
    obtain ⟨T164, h164, X164, e164, E164, A164, D164, -, st164⟩ := newO X160 hx hZ hown (own_w5 hw) (own_w6 hw) (own_w7 hw) e160 (g := (mkF m 230 #[.val (.int i0), .val (.int i1), .val (.int i2), .val (.int i3), .val (.int i4), .val (.int i5), .val (.ref b1), .val (.int 3), .val (.ref b143), .unset, .unset, .unset, .unset] [])) rfl (hb hby at_230) (by decide) (by decide)
    obtain ⟨b164, g164⟩ : ∃ z, z = h160.size := ⟨_, rfl⟩
    rw [← g164] at A164 D164 st164
    have f165 := (f158.other W160 ne_b1_b143)
    have ne_b1_b164 : b1 ≠ b164 := Nat.ne_of_lt (Nat.lt_of_lt_of_le f165.lt (Nat.le_of_eq g164.symm))
    have ne_b143_b164 : b143 ≠ b164 := Nat.ne_of_lt (Nat.lt_of_lt_of_le Vn160.lt (Nat.le_of_eq g164.symm))
    have g_b164 : n0 ≤ b164 := Nat.le_trans (own_z O_160) (Nat.le_of_eq g164.symm)
    have Sf_b164 := Safe.ext E164 CH163.1 (Safe.new (Nat.le_of_eq g164.symm))
    have Sf166 := Safe.ext E164 CH163.1 Sf161
    have Sf167 := Safe.ext E164 CH163.1 Sf162
    have CH168 := CH163.trans (CHr.ext E164 CH163.1)
    have O_164 := O_160.ext E164
    have F164_coder : Fld Z h164 b164 "java/lang/String" "coder" "B" (.int 0) := D164 (Or.inr (own_w31 hw)) (ty := .byte) (by decide)
    have F164_value : Fld Z h164 b164 "java/lang/String" "value" "[B" .null := D164 (Or.inr (own_w33 hw)) (ty := (.array .byte)) (by decide)
    refine GoesW.step (B := T164.setTop (mkF m 233 #[.val (.int i0), .val (.int i1), .val (.int i2), .val (.int i3), .val (.int i4), .val (.int i5), .val (.ref b1), .val (.int 3), .val (.ref b143), .unset, .unset, .unset, .unset] [(.ref b164)])) st164 ?_
    refine GoesW.step (fun _ k => pw_dup X164.here hx (hb hby at_233) rfl _ (pw_aload X164.here hx (hb hby at_234) rfl rfl _ k)) ?_
    have f170 := (Vn160.ext E164)
    have f171 := S_COMPACT_STRINGS.ext O_164.2
    obtain ⟨_, _, ⟨T169, qL169, qk169, qn169⟩, -, X169, ⟨Lc169, hQ169, ql169, qy169, qz169⟩, st169⟩ := X164.specialBack hx (y := (⟨"java/lang/String", "<init>", "([C)V"⟩ : MethodName)) rfl hown (mvT hZ (own_w8 hw)) (mvT hZ (own_w9 hw)) (mvT hZ (own_w10 hw)) (by decide) (backOf (W := 1) (rmSI_3 l Z a0 hw [] b164 b143 k143 cs r_3 r_7 r_11 h164 n0 O_164 A164 g_b164 F164_value F164_coder f170 f171 hcs hok_3 hok_7 hok_11) hZ (own_w10 hw) (own_w7 hw) (by decide) (by decide)) (g := (mkF m 236 #[.val (.int i0), .val (.int i1), .val (.int i2), .val (.int i3), .val (.int i4), .val (.int i5), .val (.ref b1), .val (.int 3), .val (.ref b143), .unset, .unset, .unset, .unset] [(.ref b143), (.ref b164), (.ref b164)])) rfl (by rw [hml]; rfl) (Steps.refl _) (a := b164) (argsL := [(.ref b143)]) (rest := [(.ref b164)]) (lenOf pd_22 rfl) rfl (by show 2 * 0 + _ ≤ _; exact Nat.le_of_eq rfl) (hb hby at_236) (fun _ _ => ⟨rfl, e164, (by decide : 3 + 1 ≤ _), (by decide : 12 + 3 ≤ _)⟩)
    dsimp only [Pt.U, Pt.locs, Pt.cells, Pt.slots] at X169 ql169 qy169 qz169 st169 hQ169
    rw [ql169, qy169, qz169] at X169
    obtain ⟨rfl, Nq169, Kp169, Ex169, sv169, sk169, Fsv169, Fsc169, Vsv169⟩ := hQ169
    have Sf172 := Safe.keep Kp169 (sfS Sf_b164 sf0) CH168.1 Sf166
    have Sf173 := Safe.keep Kp169 (sfS Sf_b164 sf0) CH168.1 Sf167
    have Sf174 := Safe.keep Kp169 (sfS Sf_b164 sf0) CH168.1 Sf_b164
    have CH175 := CH168.trans (CHr.keep Kp169 (sfS Sf_b164 sf0) CH168.1)
    have O_169 := O_164.keep Kp169 (allS g_b164 all0)
    have N169 := Fr.app N160 Nq169
    refine GoesW.via (B := T169.setTop (mkF m 239 #[.val (.int i0), .val (.int i1), .val (.int i2), .val (.int i3), .val (.int i4), .val (.int i5), .val (.ref b1), .val (.int 3), .val (.ref b143), .unset, .unset, .unset, .unset] [(.ref b164)])) st169 ?_
    refine GoesW.step (fun _ k => pw_astore X169.here hx (l' := #[.val (.int i0), .val (.int i1), .val (.int i2), .val (.int i3), .val (.int i4), .val (.int i5), .val (.ref b1), .val (.int 3), .val (.ref b143), .val (.ref b164), .unset, .unset, .unset]) (hb hby at_239) rfl rfl _ (pw_aload X169.here hx (hb hby at_241) rfl rfl _ k)) ?_
    have f177 := S_COMPACT_STRINGS.ext O_169.2
    obtain ⟨_, vw176, ⟨T176, qL176, qk176, qn176⟩, -, Xr176, S2176, sz176, ⟨Lc176, hQ176, ql176, qy176, qz176, Hc176⟩, st176⟩ := callSS X169 hx (y := (⟨"com/example/partwright/partwright/reader/FormPart", "lastPathComponent", "(Ljava/lang/String;)Ljava/lang/String;"⟩ : MethodName)) hown (mvT hZ (own_w34 hw)) (mvT hZ (own_w35 hw)) (mvT hZ (own_w36 hw)) (mvT hZ (own_w37 hw)) (by decide) (backOfSH (W := 0) (rmLP l Z a0 hw [] b164 sv169 sk169 (3 : Int32) [(own_b r_3), (own_b r_7), (own_b r_11)] cs fm T169.heap n0 O_169 FS Ex169 Fsc169 Fsv169 Vsv169 rfl (by decide)) hZ (own_w37 hw) (own_w36 hw) (by decide) (by decide) (own_EW hw) CH175.1) (g := (mkF m 243 #[.val (.int i0), .val (.int i1), .val (.int i2), .val (.int i3), .val (.int i4), .val (.int i5), .val (.ref b1), .val (.int 3), .val (.ref b143), .val (.ref b164), .unset, .unset, .unset] [(.ref b164)])) rfl (by rw [hml]; rfl) (argsL := [(.ref b164)]) (rest := []) (lenOf pd_23 rfl) rfl (by show 2 * 0 + _ ≤ _; exact Nat.le_of_eq rfl) (hb hby at_243) (fun _ _ => ⟨rfl, rfl, (by decide : 4 + 2 ≤ _), (by decide : 15 + 9 ≤ _)⟩)
    dsimp only [Pt.U, Pt.locs, Pt.cells, Pt.slots] at Xr176 S2176 sz176 ql176 qy176 qz176 st176 hQ176 Hc176
    rw [ql176, qy176, qz176] at Xr176
    obtain ⟨X176, hS176, hZ176, hown176⟩ := rebS hS0 (by exact (Nat.le_trans (Nat.le_trans (Nat.le_trans (Nat.le_trans (Nat.le_trans (Nat.le_trans (Nat.le_trans (Nat.le_trans (Nat.le_trans (Nat.le_trans (Nat.le_trans (Nat.le_trans (Nat.le_refl _) E1.1) (Nat.le_of_eq W4.size.symm)) (Nat.le_of_eq W8.size.symm)) (Nat.le_of_eq W12.size.symm)) (Nat.le_of_eq W16.size.symm)) (Nat.le_of_eq W20.size.symm)) E143.1) (Nat.le_of_eq W148.size.symm)) (Nat.le_of_eq W154.size.symm)) (Nat.le_of_eq W160.size.symm)) E164.1) Kp169.1)) Xr176 S2176 sz176 hZ hown
    have CHc176 := CH175.trans Hc176
    obtain ⟨r176, vb176, kv176, mm176, bb176, rfl, Nq176, Kp176, hbb176, hmm176, Er176, Fv176, Fc176, Vr176⟩ := hQ176
    have f179 := ((f165.ext E164).keep Kp169 (ninS ne_b1_b164 nin0))
    have Sf178 := CHr.safe Hc176 f179.lt Sf172
    have f181 := (f170.keep Kp169 (ninS ne_b143_b164 nin0))
    have Sf180 := CHr.safe Hc176 f181.lt Sf173
    have Sf182 := CHr.safe Hc176 Ex169.lt Sf174
    have O_176 := O_169.keep Kp176 all0
    have N176 := Fr.app N169 Nq176
    refine GoesW.via (B := T176.setTop (mkF m 246 #[.val (.int i0), .val (.int i1), .val (.int i2), .val (.int i3), .val (.int i4), .val (.int i5), .val (.ref b1), .val (.int 3), .val (.ref b143), .val (.ref b164), .unset, .unset, .unset] [(.ref r176)])) st176 ?_
    refine GoesW.step (fun _ k => pw_astore X176.here hx (l' := #[.val (.int i0), .val (.int i1), .val (.int i2), .val (.int i3), .val (.int i4), .val (.int i5), .val (.ref b1), .val (.int 3), .val (.ref b143), .val (.ref b164), .val (.ref r176), .unset, .unset]) (hb hby at_246) rfl rfl _ (pw_iconst X176.here hx (v := (-1 : Int32)) (hb hby at_248) rfl _ (pw_istore X176.here hx (l' := #[.val (.int i0), .val (.int i1), .val (.int i2), .val (.int i3), .val (.int i4), .val (.int i5), .val (.ref b1), .val (.int 3), .val (.ref b143), .val (.ref b164), .val (.ref r176), .val (.int (-1)), .unset]) (hb hby at_249) rfl _ (pw_iload X176.here hx (hb hby at_251) rfl _ (pw_ifNo X176.here hx (hb hby at_253) ((if0 _ _).trans (tlt (by decide)).2.2.2) _ (pw_aload X176.here hx (hb hby at_256) rfl rfl _ k)))))) ?_
    refine GoesW.step (fun _ k => pw_iconst X176.here hx (v := (0 : Int32)) (hb hby at_258) rfl _ k) ?_
    have f183 := (f179.keep Kp176 nin0)
    obtain ⟨c184, Ar184, -, Sz184, Nn184, Hs184, -⟩ := id f183
    have hin184 : ¬ ((0 : Int32) < 0 ∨ c184.slots.size ≤ ((0 : Int32)).toNatClampNeg) := inb_of Sz184 ⟨by decide, by decide⟩
    refine GoesW.step (B := T176.setTop (mkF m 260 #[.val (.int i0), .val (.int i1), .val (.int i2), .val (.int i3), .val (.int i4), .val (.int i5), .val (.ref b1), .val (.int 3), .val (.ref b143), .val (.ref b164), .val (.ref r176), .val (.int (-1)), .unset] [(.int r_3)])) (X176.caload hx (j := (0 : Int32)) (v := (.int r_3)) (by exact Ar184.1) (State.isArrayOf_alike hZ176.alike Ar184.2.1) Ar184.2.2 hin184 (Has.at Hs184 hin184 rfl) (g := (mkF m 259 #[.val (.int i0), .val (.int i1), .val (.int i2), .val (.int i3), .val (.int i4), .val (.int i5), .val (.ref b1), .val (.int 3), .val (.ref b143), .val (.ref b164), .val (.ref r176), .val (.int (-1)), .unset] [(.int 0), (.ref b1)])) rfl rfl (hb hby at_259)) ?_
    obtain ⟨_, _, ⟨T185, qL185, qk185, qn185⟩, -, X185, ⟨Lc185, hQ185, ql185, qy185, qz185⟩, st185⟩ := Jvm.LawKit.callS X176 hx (y := (⟨"com/example/partwright/partwright/reader/FormPartLastPathComponentPinLaw", "sep", "(C)Z"⟩ : MethodName)) hown176 (mvT hZ176 (own_w117 hw)) (mvT hZ176 (own_w118 hw)) (mvT hZ176 (own_w3 hw)) (mvT hZ176 (own_w119 hw)) (by decide) (backOf (W := 0) (rm27 l Z a0 hw [] r_3 T176.heap n0 O_176 ) hZ176 (own_w119 hw) (own_w3 hw) (by decide) (by decide)) (g := (mkF m 260 #[.val (.int i0), .val (.int i1), .val (.int i2), .val (.int i3), .val (.int i4), .val (.int i5), .val (.ref b1), .val (.int 3), .val (.ref b143), .val (.ref b164), .val (.ref r176), .val (.int (-1)), .unset] [(.int r_3)])) rfl (by rw [hml]; rfl) (argsL := [(.int r_3)]) (rest := []) (lenOf pd_25 rfl) rfl (by show 2 * 0 + _ ≤ _; exact Nat.le_of_eq rfl) (hb hby at_260) (fun _ _ => ⟨rfl, rfl, (by decide : 6 + 0 ≤ _), (by decide : 24 + 0 ≤ _)⟩)
    dsimp only [Pt.U, Pt.locs, Pt.cells, Pt.slots] at X185 ql185 qy185 qz185 st185 hQ185
    rw [ql185, qy185, qz185] at X185
    obtain ⟨rfl, Nq185, eh185⟩ := hQ185
    have N185 := Fr.app N176 Nq185
    refine GoesW.step (B := T185.setTop (mkF m 263 #[.val (.int i0), .val (.int i1), .val (.int i2), .val (.int i3), .val (.int i4), .val (.int i5), .val (.ref b1), .val (.int 3), .val (.ref b143), .val (.ref b164), .val (.ref r176), .val (.int (-1)), .unset] [(.int (own_sep r_3))])) st185 ?_
    have J186 : ∀ (kj0 : Int32), kj0 = own_k1 r_3 → GoesW p e below s (Q0 Z i0 i1 i2 i3 i4 i5 cs fm h0 n0) room_1.cells room_1.slots (T185.setTop (mkF m 269 #[.val (.int i0), .val (.int i1), .val (.int i2), .val (.int i3), .val (.int i4), .val (.int i5), .val (.ref b1), .val (.int 3), .val (.ref b143), .val (.ref b164), .val (.ref r176), .val (.int kj0), .unset] [])) := by
     intro kj0 hkj0
     refine GoesW.step (fun _ k => pw_iload X185.here hx (hb hby at_269) rfl _ (pw_iconst X185.here hx (v := (1 : Int32)) (hb hby at_271) rfl _ (pw_icmpNo X185.here hx (hb hby at_272) (tlt (by decide)).2.2.2 _ (pw_aload X185.here hx (hb hby at_275) rfl rfl _ (pw_iconst X185.here hx (v := (1 : Int32)) (hb hby at_277) rfl _ k))))) ?_
     obtain ⟨c187, Ar187, -, Sz187, Nn187, Hs187, -⟩ := id f183
     have hin187 : ¬ ((1 : Int32) < 0 ∨ c187.slots.size ≤ ((1 : Int32)).toNatClampNeg) := inb_of Sz187 ⟨by decide, by decide⟩
     refine GoesW.step (B := T185.setTop (mkF m 279 #[.val (.int i0), .val (.int i1), .val (.int i2), .val (.int i3), .val (.int i4), .val (.int i5), .val (.ref b1), .val (.int 3), .val (.ref b143), .val (.ref b164), .val (.ref r176), .val (.int kj0), .unset] [(.int r_7)])) (X185.caload hx (j := (1 : Int32)) (v := (.int r_7)) (by rw [eh185]; exact Ar187.1) (State.isArrayOf_alike hZ176.alike Ar187.2.1) Ar187.2.2 hin187 (Has.at Hs187 hin187 rfl) (g := (mkF m 278 #[.val (.int i0), .val (.int i1), .val (.int i2), .val (.int i3), .val (.int i4), .val (.int i5), .val (.ref b1), .val (.int 3), .val (.ref b143), .val (.ref b164), .val (.ref r176), .val (.int kj0), .unset] [(.int 1), (.ref b1)])) rfl rfl (hb hby at_278)) ?_
     obtain ⟨_, _, ⟨T188, qL188, qk188, qn188⟩, -, X188, ⟨Lc188, hQ188, ql188, qy188, qz188⟩, st188⟩ := Jvm.LawKit.callS X185 hx (y := (⟨"com/example/partwright/partwright/reader/FormPartLastPathComponentPinLaw", "sep", "(C)Z"⟩ : MethodName)) hown176 (mvT hZ176 (own_w117 hw)) (mvT hZ176 (own_w118 hw)) (mvT hZ176 (own_w3 hw)) (mvT hZ176 (own_w119 hw)) (by decide) (backOf (W := 0) (rm27 l Z a0 hw [] r_7 T176.heap n0 O_176 ) hZ176 (own_w119 hw) (own_w3 hw) (by decide) (by decide)) (g := (mkF m 279 #[.val (.int i0), .val (.int i1), .val (.int i2), .val (.int i3), .val (.int i4), .val (.int i5), .val (.ref b1), .val (.int 3), .val (.ref b143), .val (.ref b164), .val (.ref r176), .val (.int kj0), .unset] [(.int r_7)])) rfl (by rw [hml]; rfl) (argsL := [(.int r_7)]) (rest := []) (lenOf pd_25 rfl) rfl (by show 2 * 0 + _ ≤ _; exact Nat.le_of_eq rfl) (hb hby at_279) (fun _ _ => ⟨rfl, eh185, (by decide : 6 + 0 ≤ _), (by decide : 24 + 0 ≤ _)⟩)
     dsimp only [Pt.U, Pt.locs, Pt.cells, Pt.slots] at X188 ql188 qy188 qz188 st188 hQ188
     rw [ql188, qy188, qz188] at X188
     obtain ⟨rfl, Nq188, eh188⟩ := hQ188
     have N188 := Fr.app N185 Nq188
     refine GoesW.step (B := T188.setTop (mkF m 282 #[.val (.int i0), .val (.int i1), .val (.int i2), .val (.int i3), .val (.int i4), .val (.int i5), .val (.ref b1), .val (.int 3), .val (.ref b143), .val (.ref b164), .val (.ref r176), .val (.int kj0), .unset] [(.int (own_sep r_7))])) st188 ?_
     have J189 : ∀ (kj1 : Int32), kj1 = own_k2 r_3 r_7 → GoesW p e below s (Q0 Z i0 i1 i2 i3 i4 i5 cs fm h0 n0) room_1.cells room_1.slots (T188.setTop (mkF m 288 #[.val (.int i0), .val (.int i1), .val (.int i2), .val (.int i3), .val (.int i4), .val (.int i5), .val (.ref b1), .val (.int 3), .val (.ref b143), .val (.ref b164), .val (.ref r176), .val (.int kj1), .unset] [])) := by
      intro kj1 hkj1
      refine GoesW.step (fun _ k => pw_iload X188.here hx (hb hby at_288) rfl _ (pw_iconst X188.here hx (v := (2 : Int32)) (hb hby at_290) rfl _ (pw_icmpNo X188.here hx (hb hby at_291) (tlt (by decide)).2.2.2 _ (pw_aload X188.here hx (hb hby at_294) rfl rfl _ (pw_iconst X188.here hx (v := (2 : Int32)) (hb hby at_296) rfl _ k))))) ?_
      obtain ⟨c190, Ar190, -, Sz190, Nn190, Hs190, -⟩ := id f183
      have hin190 : ¬ ((2 : Int32) < 0 ∨ c190.slots.size ≤ ((2 : Int32)).toNatClampNeg) := inb_of Sz190 ⟨by decide, by decide⟩
      refine GoesW.step (B := T188.setTop (mkF m 298 #[.val (.int i0), .val (.int i1), .val (.int i2), .val (.int i3), .val (.int i4), .val (.int i5), .val (.ref b1), .val (.int 3), .val (.ref b143), .val (.ref b164), .val (.ref r176), .val (.int kj1), .unset] [(.int r_11)])) (X188.caload hx (j := (2 : Int32)) (v := (.int r_11)) (by rw [eh188]; exact Ar190.1) (State.isArrayOf_alike hZ176.alike Ar190.2.1) Ar190.2.2 hin190 (Has.at Hs190 hin190 rfl) (g := (mkF m 297 #[.val (.int i0), .val (.int i1), .val (.int i2), .val (.int i3), .val (.int i4), .val (.int i5), .val (.ref b1), .val (.int 3), .val (.ref b143), .val (.ref b164), .val (.ref r176), .val (.int kj1), .unset] [(.int 2), (.ref b1)])) rfl rfl (hb hby at_297)) ?_
      obtain ⟨_, _, ⟨T191, qL191, qk191, qn191⟩, -, X191, ⟨Lc191, hQ191, ql191, qy191, qz191⟩, st191⟩ := Jvm.LawKit.callS X188 hx (y := (⟨"com/example/partwright/partwright/reader/FormPartLastPathComponentPinLaw", "sep", "(C)Z"⟩ : MethodName)) hown176 (mvT hZ176 (own_w117 hw)) (mvT hZ176 (own_w118 hw)) (mvT hZ176 (own_w3 hw)) (mvT hZ176 (own_w119 hw)) (by decide) (backOf (W := 0) (rm27 l Z a0 hw [] r_11 T176.heap n0 O_176 ) hZ176 (own_w119 hw) (own_w3 hw) (by decide) (by decide)) (g := (mkF m 298 #[.val (.int i0), .val (.int i1), .val (.int i2), .val (.int i3), .val (.int i4), .val (.int i5), .val (.ref b1), .val (.int 3), .val (.ref b143), .val (.ref b164), .val (.ref r176), .val (.int kj1), .unset] [(.int r_11)])) rfl (by rw [hml]; rfl) (argsL := [(.int r_11)]) (rest := []) (lenOf pd_25 rfl) rfl (by show 2 * 0 + _ ≤ _; exact Nat.le_of_eq rfl) (hb hby at_298) (fun _ _ => ⟨rfl, eh188, (by decide : 6 + 0 ≤ _), (by decide : 24 + 0 ≤ _)⟩)
      dsimp only [Pt.U, Pt.locs, Pt.cells, Pt.slots] at X191 ql191 qy191 qz191 st191 hQ191
      rw [ql191, qy191, qz191] at X191
      obtain ⟨rfl, Nq191, eh191⟩ := hQ191
      have N191 := Fr.app N188 Nq191
      refine GoesW.step (B := T191.setTop (mkF m 301 #[.val (.int i0), .val (.int i1), .val (.int i2), .val (.int i3), .val (.int i4), .val (.int i5), .val (.ref b1), .val (.int 3), .val (.ref b143), .val (.ref b164), .val (.ref r176), .val (.int kj1), .unset] [(.int (own_sep r_11))])) st191 ?_
      have J192 : ∀ (kj2 : Int32), kj2 = own_k3 r_3 r_7 r_11 → GoesW p e below s (Q0 Z i0 i1 i2 i3 i4 i5 cs fm h0 n0) room_1.cells room_1.slots (T191.setTop (mkF m 307 #[.val (.int i0), .val (.int i1), .val (.int i2), .val (.int i3), .val (.int i4), .val (.int i5), .val (.ref b1), .val (.int 3), .val (.ref b143), .val (.ref b164), .val (.ref r176), .val (.int kj2), .unset] [])) := by
       intro kj2 hkj2
       refine GoesW.step (fun _ k => pw_iload X191.here hx (hb hby at_307) rfl _ (pw_iconst X191.here hx (v := (3 : Int32)) (hb hby at_309) rfl _ (pw_icmpYes X191.here hx (pc' := 326) (hb hby at_310) (flt (by decide)).2.2.2 (by decide) (by decide) _ (pw_iload X191.here hx (hb hby at_326) rfl _ (pw_iconst X191.here hx (v := (4 : Int32)) (hb hby at_328) rfl _ (pw_icmpYes X191.here hx (pc' := 345) (hb hby at_329) (flt (by decide)).2.2.2 (by decide) (by decide) _ k)))))) ?_
       have hke : kj2 = own_k3 r_3 r_7 r_11 := hkj2
       have heq : own_max (own_lix (47 : Int32) [(own_b r_3), (own_b r_7), (own_b r_11)]) (own_lix (92 : Int32) [(own_b r_3), (own_b r_7), (own_b r_11)]) = own_k3 r_3 r_7 r_11 := own_eq3 hok_3 hok_7 hok_11
       have hkb : -1 ≤ (kj2 : Int32).toInt ∧ (kj2 : Int32).toInt < 3 := by rw [hke, ← heq]; exact own_mb3 (own_b r_3) (own_b r_7) (own_b r_11) 47 92
       have hbk : bb176 = kj2 + 1 := by rw [hbb176, heq, hke]
       have hme := own_m3 hkb hbk hmm176
       refine GoesW.step (fun _ k => pw_iload X191.here hx (hb hby at_345) rfl _ (pw_iload X191.here hx (hb hby at_347) rfl _ (pw_isub X191.here hx (hb hby at_349) _ (pw_iconst X191.here hx (v := (1 : Int32)) (hb hby at_350) rfl _ (pw_isub X191.here hx (hb hby at_351) _ (pw_istore X191.here hx (l' := #[.val (.int i0), .val (.int i1), .val (.int i2), .val (.int i3), .val (.int i4), .val (.int i5), .val (.ref b1), .val (.int 3), .val (.ref b143), .val (.ref b164), .val (.ref r176), .val (.int kj2), .val (.int (((3 : Int32) - kj2) - (1 : Int32)))]) (hb hby at_352) rfl _ k)))))) ?_
       refine GoesW.step (fun _ k => pw_aload X191.here hx (hb hby at_354) rfl rfl _ k) ?_
       have f194 := S_COMPACT_STRINGS.ext O_176.2
       obtain ⟨cq193, kq193, qa193, qb193, qc193⟩ := isOf hZ176 eh191 Er176
       obtain ⟨_, _, ⟨T193, qL193, qk193, qn193⟩, -, X193, ⟨Lc193, hQ193, ql193, qy193, qz193⟩, st193⟩ := X191.virtualBack hx (y := (⟨"java/lang/String", "length", "()I"⟩ : MethodName)) (z := (⟨"java/lang/String", "length", "()I"⟩ : MethodName)) hown176 (mvT hZ176 (own_w120 hw)) (mvT hZ176 (own_w44 hw)) (notFace_of_selects (args := #[]) (mvT hZ176 (own_w46 hw))) (mvT hZ176 (own_w46 hw)) (mvT hZ176 (own_w45 hw)) (by decide) (backOf (W := 0) (rm10 l Z a0 hw [] r176 vb176 kv176 mm176 (own_sub [(own_b r_3), (own_b r_7), (own_b r_11)] bb176 mm176) cs T176.heap n0 O_176 f194 hcs Er176 Fc176 Fv176 Vr176) hZ176 (own_w47 hw) (own_w7 hw) (by decide) (by decide)) qa193 qc193 (g := (mkF m 356 #[.val (.int i0), .val (.int i1), .val (.int i2), .val (.int i3), .val (.int i4), .val (.int i5), .val (.ref b1), .val (.int 3), .val (.ref b143), .val (.ref b164), .val (.ref r176), .val (.int kj2), .val (.int (((3 : Int32) - kj2) - (1 : Int32)))] [(.ref r176)])) rfl (by rw [hml]; rfl) (Steps.refl _) (argsL := []) (rest := []) (lenOf pd_13 rfl) rfl (by show 2 * 0 + _ ≤ _; exact Nat.le_of_eq rfl) (hb hby at_356) (fun _ _ => ⟨rfl, eh191, (by decide : 6 + 0 ≤ _), (by decide : 24 + 0 ≤ _)⟩)
       dsimp only [Pt.U, Pt.locs, Pt.cells, Pt.slots] at X193 ql193 qy193 qz193 st193 hQ193
       rw [ql193, qy193, qz193] at X193
       obtain ⟨rfl, Nq193, eh193⟩ := hQ193
       have N193 := Fr.app N191 Nq193
       refine GoesW.via (B := T193.setTop (mkF m 359 #[.val (.int i0), .val (.int i1), .val (.int i2), .val (.int i3), .val (.int i4), .val (.int i5), .val (.ref b1), .val (.int 3), .val (.ref b143), .val (.ref b164), .val (.ref r176), .val (.int kj2), .val (.int (((3 : Int32) - kj2) - (1 : Int32)))] [(.int mm176)])) st193 ?_
       refine GoesW.step (fun _ k => pw_iload X193.here hx (hb hby at_359) rfl _ (pw_icmpYes X193.here hx (pc' := 366) (hb hby at_361) (teq (by rw [hme])).1 (by decide) (by decide) _ (pw_aload X193.here hx (hb hby at_366) rfl rfl _ (pw_iconst X193.here hx (v := (0 : Int32)) (hb hby at_368) rfl _ (pw_iload X193.here hx (hb hby at_369) rfl _ (pw_aload X193.here hx (hb hby at_371) rfl rfl _ k)))))) ?_
       refine GoesW.step (fun _ k => pw_iload X193.here hx (hb hby at_373) rfl _ (pw_iconst X193.here hx (v := (1 : Int32)) (hb hby at_375) rfl _ (pw_iadd X193.here hx (hb hby at_376) _ k))) ?_
       obtain ⟨_, _, ⟨T195, qL195, qk195, qn195⟩, -, X195, ⟨Lc195, hQ195, ql195, qy195, qz195⟩, st195⟩ := Jvm.LawKit.callS X193 hx (y := (⟨"com/example/partwright/partwright/reader/FormPartLastPathComponentPinLaw", "at", "(Ljava/lang/String;II[CI)Z"⟩ : MethodName)) hown176 (mvT hZ176 (own_w121 hw)) (mvT hZ176 (own_w122 hw)) (mvT hZ176 (own_w3 hw)) (mvT hZ176 (own_w123 hw)) (by decide) (backOf (W := 0) (rmAt l Z a0 hw [] r176 vb176 kv176 mm176 (own_sub [(own_b r_3), (own_b r_7), (own_b r_11)] bb176 mm176) b1 k1 r_3 r_7 r_11 r_15 r_19 (0 : Int32) (((3 : Int32) - kj2) - (1 : Int32)) (kj2 + (1 : Int32)) cs fm T176.heap n0 O_176 FS Er176 Fc176 Fv176 Vr176 f183 (own_hat3 hok_3 hok_7 hok_11 hkb hbk hmm176 (by decide) (by decide))) hZ176 (own_w123 hw) (own_w3 hw) (by decide) (by decide)) (g := (mkF m 377 #[.val (.int i0), .val (.int i1), .val (.int i2), .val (.int i3), .val (.int i4), .val (.int i5), .val (.ref b1), .val (.int 3), .val (.ref b143), .val (.ref b164), .val (.ref r176), .val (.int kj2), .val (.int (((3 : Int32) - kj2) - (1 : Int32)))] [(.int (kj2 + (1 : Int32))), (.ref b1), (.int (((3 : Int32) - kj2) - (1 : Int32))), (.int 0), (.ref r176)])) rfl (by rw [hml]; rfl) (argsL := [(.ref r176), (.int 0), (.int (((3 : Int32) - kj2) - (1 : Int32))), (.ref b1), (.int (kj2 + (1 : Int32)))]) (rest := []) (lenOf pd_24 rfl) rfl (by show 2 * 0 + _ ≤ _; exact Nat.le_of_eq rfl) (hb hby at_377) (fun _ _ => ⟨rfl, eh193, (by decide : 6 + 0 ≤ _), (by decide : 24 + 0 ≤ _)⟩)
       dsimp only [Pt.U, Pt.locs, Pt.cells, Pt.slots] at X195 ql195 qy195 qz195 st195 hQ195
       rw [ql195, qy195, qz195] at X195
       obtain ⟨rfl, Nq195, eh195⟩ := hQ195
       have N195 := Fr.app N193 Nq195
       refine GoesW.step (B := T195.setTop (mkF m 380 #[.val (.int i0), .val (.int i1), .val (.int i2), .val (.int i3), .val (.int i4), .val (.int i5), .val (.ref b1), .val (.int 3), .val (.ref b143), .val (.ref b164), .val (.ref r176), .val (.int kj2), .val (.int (((3 : Int32) - kj2) - (1 : Int32)))] [(.int 1)])) st195 ?_
       refine GoesW.step (fun _ k => pw_ifNo X195.here hx (hb hby at_380) ((if0 _ _).trans (feq (by decide)).1) _ (pw_aload X195.here hx (hb hby at_383) rfl rfl _ (pw_iconst X195.here hx (v := (1 : Int32)) (hb hby at_385) rfl _ (pw_iload X195.here hx (hb hby at_386) rfl _ (pw_aload X195.here hx (hb hby at_388) rfl rfl _ (pw_iload X195.here hx (hb hby at_390) rfl _ k)))))) ?_
       refine GoesW.step (fun _ k => pw_iconst X195.here hx (v := (1 : Int32)) (hb hby at_392) rfl _ (pw_iadd X195.here hx (hb hby at_393) _ k)) ?_
       obtain ⟨_, _, ⟨T196, qL196, qk196, qn196⟩, -, X196, ⟨Lc196, hQ196, ql196, qy196, qz196⟩, st196⟩ := Jvm.LawKit.callS X195 hx (y := (⟨"com/example/partwright/partwright/reader/FormPartLastPathComponentPinLaw", "at", "(Ljava/lang/String;II[CI)Z"⟩ : MethodName)) hown176 (mvT hZ176 (own_w121 hw)) (mvT hZ176 (own_w122 hw)) (mvT hZ176 (own_w3 hw)) (mvT hZ176 (own_w123 hw)) (by decide) (backOf (W := 0) (rmAt l Z a0 hw [] r176 vb176 kv176 mm176 (own_sub [(own_b r_3), (own_b r_7), (own_b r_11)] bb176 mm176) b1 k1 r_3 r_7 r_11 r_15 r_19 (1 : Int32) (((3 : Int32) - kj2) - (1 : Int32)) (kj2 + (1 : Int32)) cs fm T176.heap n0 O_176 FS Er176 Fc176 Fv176 Vr176 f183 (own_hat3 hok_3 hok_7 hok_11 hkb hbk hmm176 (by decide) (by decide))) hZ176 (own_w123 hw) (own_w3 hw) (by decide) (by decide)) (g := (mkF m 394 #[.val (.int i0), .val (.int i1), .val (.int i2), .val (.int i3), .val (.int i4), .val (.int i5), .val (.ref b1), .val (.int 3), .val (.ref b143), .val (.ref b164), .val (.ref r176), .val (.int kj2), .val (.int (((3 : Int32) - kj2) - (1 : Int32)))] [(.int (kj2 + (1 : Int32))), (.ref b1), (.int (((3 : Int32) - kj2) - (1 : Int32))), (.int 1), (.ref r176)])) rfl (by rw [hml]; rfl) (argsL := [(.ref r176), (.int 1), (.int (((3 : Int32) - kj2) - (1 : Int32))), (.ref b1), (.int (kj2 + (1 : Int32)))]) (rest := []) (lenOf pd_24 rfl) rfl (by show 2 * 0 + _ ≤ _; exact Nat.le_of_eq rfl) (hb hby at_394) (fun _ _ => ⟨rfl, eh195, (by decide : 6 + 0 ≤ _), (by decide : 24 + 0 ≤ _)⟩)
       dsimp only [Pt.U, Pt.locs, Pt.cells, Pt.slots] at X196 ql196 qy196 qz196 st196 hQ196
       rw [ql196, qy196, qz196] at X196
       obtain ⟨rfl, Nq196, eh196⟩ := hQ196
       have N196 := Fr.app N195 Nq196
       refine GoesW.step (B := T196.setTop (mkF m 397 #[.val (.int i0), .val (.int i1), .val (.int i2), .val (.int i3), .val (.int i4), .val (.int i5), .val (.ref b1), .val (.int 3), .val (.ref b143), .val (.ref b164), .val (.ref r176), .val (.int kj2), .val (.int (((3 : Int32) - kj2) - (1 : Int32)))] [(.int 1)])) st196 ?_
       refine GoesW.step (fun _ k => pw_ifNo X196.here hx (hb hby at_397) ((if0 _ _).trans (feq (by decide)).1) _ (pw_aload X196.here hx (hb hby at_400) rfl rfl _ (pw_iconst X196.here hx (v := (2 : Int32)) (hb hby at_402) rfl _ (pw_iload X196.here hx (hb hby at_403) rfl _ (pw_aload X196.here hx (hb hby at_405) rfl rfl _ (pw_iload X196.here hx (hb hby at_407) rfl _ k)))))) ?_
       refine GoesW.step (fun _ k => pw_iconst X196.here hx (v := (1 : Int32)) (hb hby at_409) rfl _ (pw_iadd X196.here hx (hb hby at_410) _ k)) ?_
       obtain ⟨_, _, ⟨T197, qL197, qk197, qn197⟩, -, X197, ⟨Lc197, hQ197, ql197, qy197, qz197⟩, st197⟩ := Jvm.LawKit.callS X196 hx (y := (⟨"com/example/partwright/partwright/reader/FormPartLastPathComponentPinLaw", "at", "(Ljava/lang/String;II[CI)Z"⟩ : MethodName)) hown176 (mvT hZ176 (own_w121 hw)) (mvT hZ176 (own_w122 hw)) (mvT hZ176 (own_w3 hw)) (mvT hZ176 (own_w123 hw)) (by decide) (backOf (W := 0) (rmAt l Z a0 hw [] r176 vb176 kv176 mm176 (own_sub [(own_b r_3), (own_b r_7), (own_b r_11)] bb176 mm176) b1 k1 r_3 r_7 r_11 r_15 r_19 (2 : Int32) (((3 : Int32) - kj2) - (1 : Int32)) (kj2 + (1 : Int32)) cs fm T176.heap n0 O_176 FS Er176 Fc176 Fv176 Vr176 f183 (own_hat3 hok_3 hok_7 hok_11 hkb hbk hmm176 (by decide) (by decide))) hZ176 (own_w123 hw) (own_w3 hw) (by decide) (by decide)) (g := (mkF m 411 #[.val (.int i0), .val (.int i1), .val (.int i2), .val (.int i3), .val (.int i4), .val (.int i5), .val (.ref b1), .val (.int 3), .val (.ref b143), .val (.ref b164), .val (.ref r176), .val (.int kj2), .val (.int (((3 : Int32) - kj2) - (1 : Int32)))] [(.int (kj2 + (1 : Int32))), (.ref b1), (.int (((3 : Int32) - kj2) - (1 : Int32))), (.int 2), (.ref r176)])) rfl (by rw [hml]; rfl) (argsL := [(.ref r176), (.int 2), (.int (((3 : Int32) - kj2) - (1 : Int32))), (.ref b1), (.int (kj2 + (1 : Int32)))]) (rest := []) (lenOf pd_24 rfl) rfl (by show 2 * 0 + _ ≤ _; exact Nat.le_of_eq rfl) (hb hby at_411) (fun _ _ => ⟨rfl, eh196, (by decide : 6 + 0 ≤ _), (by decide : 24 + 0 ≤ _)⟩)
       dsimp only [Pt.U, Pt.locs, Pt.cells, Pt.slots] at X197 ql197 qy197 qz197 st197 hQ197
       rw [ql197, qy197, qz197] at X197
       obtain ⟨rfl, Nq197, eh197⟩ := hQ197
       have N197 := Fr.app N196 Nq197
       refine GoesW.step (B := T197.setTop (mkF m 414 #[.val (.int i0), .val (.int i1), .val (.int i2), .val (.int i3), .val (.int i4), .val (.int i5), .val (.ref b1), .val (.int 3), .val (.ref b143), .val (.ref b164), .val (.ref r176), .val (.int kj2), .val (.int (((3 : Int32) - kj2) - (1 : Int32)))] [(.int 1)])) st197 ?_
       refine GoesW.step (fun _ k => pw_ifNo X197.here hx (hb hby at_414) ((if0 _ _).trans (feq (by decide)).1) _ (pw_aload X197.here hx (hb hby at_417) rfl rfl _ (pw_iconst X197.here hx (v := (3 : Int32)) (hb hby at_419) rfl _ (pw_iload X197.here hx (hb hby at_420) rfl _ (pw_aload X197.here hx (hb hby at_422) rfl rfl _ (pw_iload X197.here hx (hb hby at_424) rfl _ k)))))) ?_
       refine GoesW.step (fun _ k => pw_iconst X197.here hx (v := (1 : Int32)) (hb hby at_426) rfl _ (pw_iadd X197.here hx (hb hby at_427) _ k)) ?_
       obtain ⟨_, _, ⟨T198, qL198, qk198, qn198⟩, -, X198, ⟨Lc198, hQ198, ql198, qy198, qz198⟩, st198⟩ := Jvm.LawKit.callS X197 hx (y := (⟨"com/example/partwright/partwright/reader/FormPartLastPathComponentPinLaw", "at", "(Ljava/lang/String;II[CI)Z"⟩ : MethodName)) hown176 (mvT hZ176 (own_w121 hw)) (mvT hZ176 (own_w122 hw)) (mvT hZ176 (own_w3 hw)) (mvT hZ176 (own_w123 hw)) (by decide) (backOf (W := 0) (rmAt l Z a0 hw [] r176 vb176 kv176 mm176 (own_sub [(own_b r_3), (own_b r_7), (own_b r_11)] bb176 mm176) b1 k1 r_3 r_7 r_11 r_15 r_19 (3 : Int32) (((3 : Int32) - kj2) - (1 : Int32)) (kj2 + (1 : Int32)) cs fm T176.heap n0 O_176 FS Er176 Fc176 Fv176 Vr176 f183 (own_hat3 hok_3 hok_7 hok_11 hkb hbk hmm176 (by decide) (by decide))) hZ176 (own_w123 hw) (own_w3 hw) (by decide) (by decide)) (g := (mkF m 428 #[.val (.int i0), .val (.int i1), .val (.int i2), .val (.int i3), .val (.int i4), .val (.int i5), .val (.ref b1), .val (.int 3), .val (.ref b143), .val (.ref b164), .val (.ref r176), .val (.int kj2), .val (.int (((3 : Int32) - kj2) - (1 : Int32)))] [(.int (kj2 + (1 : Int32))), (.ref b1), (.int (((3 : Int32) - kj2) - (1 : Int32))), (.int 3), (.ref r176)])) rfl (by rw [hml]; rfl) (argsL := [(.ref r176), (.int 3), (.int (((3 : Int32) - kj2) - (1 : Int32))), (.ref b1), (.int (kj2 + (1 : Int32)))]) (rest := []) (lenOf pd_24 rfl) rfl (by show 2 * 0 + _ ≤ _; exact Nat.le_of_eq rfl) (hb hby at_428) (fun _ _ => ⟨rfl, eh197, (by decide : 6 + 0 ≤ _), (by decide : 24 + 0 ≤ _)⟩)
       dsimp only [Pt.U, Pt.locs, Pt.cells, Pt.slots] at X198 ql198 qy198 qz198 st198 hQ198
       rw [ql198, qy198, qz198] at X198
       obtain ⟨rfl, Nq198, eh198⟩ := hQ198
       have N198 := Fr.app N197 Nq198
       refine GoesW.step (B := T198.setTop (mkF m 431 #[.val (.int i0), .val (.int i1), .val (.int i2), .val (.int i3), .val (.int i4), .val (.int i5), .val (.ref b1), .val (.int 3), .val (.ref b143), .val (.ref b164), .val (.ref r176), .val (.int kj2), .val (.int (((3 : Int32) - kj2) - (1 : Int32)))] [(.int 1)])) st198 ?_
       refine GoesW.step (fun _ k => pw_ifNo X198.here hx (hb hby at_431) ((if0 _ _).trans (feq (by decide)).1) _ (pw_aload X198.here hx (hb hby at_434) rfl rfl _ (pw_iconst X198.here hx (v := (4 : Int32)) (hb hby at_436) rfl _ (pw_iload X198.here hx (hb hby at_437) rfl _ (pw_aload X198.here hx (hb hby at_439) rfl rfl _ (pw_iload X198.here hx (hb hby at_441) rfl _ k)))))) ?_
       refine GoesW.step (fun _ k => pw_iconst X198.here hx (v := (1 : Int32)) (hb hby at_443) rfl _ (pw_iadd X198.here hx (hb hby at_444) _ k)) ?_
       obtain ⟨_, _, ⟨T199, qL199, qk199, qn199⟩, -, X199, ⟨Lc199, hQ199, ql199, qy199, qz199⟩, st199⟩ := Jvm.LawKit.callS X198 hx (y := (⟨"com/example/partwright/partwright/reader/FormPartLastPathComponentPinLaw", "at", "(Ljava/lang/String;II[CI)Z"⟩ : MethodName)) hown176 (mvT hZ176 (own_w121 hw)) (mvT hZ176 (own_w122 hw)) (mvT hZ176 (own_w3 hw)) (mvT hZ176 (own_w123 hw)) (by decide) (backOf (W := 0) (rmAt l Z a0 hw [] r176 vb176 kv176 mm176 (own_sub [(own_b r_3), (own_b r_7), (own_b r_11)] bb176 mm176) b1 k1 r_3 r_7 r_11 r_15 r_19 (4 : Int32) (((3 : Int32) - kj2) - (1 : Int32)) (kj2 + (1 : Int32)) cs fm T176.heap n0 O_176 FS Er176 Fc176 Fv176 Vr176 f183 (own_hat3 hok_3 hok_7 hok_11 hkb hbk hmm176 (by decide) (by decide))) hZ176 (own_w123 hw) (own_w3 hw) (by decide) (by decide)) (g := (mkF m 445 #[.val (.int i0), .val (.int i1), .val (.int i2), .val (.int i3), .val (.int i4), .val (.int i5), .val (.ref b1), .val (.int 3), .val (.ref b143), .val (.ref b164), .val (.ref r176), .val (.int kj2), .val (.int (((3 : Int32) - kj2) - (1 : Int32)))] [(.int (kj2 + (1 : Int32))), (.ref b1), (.int (((3 : Int32) - kj2) - (1 : Int32))), (.int 4), (.ref r176)])) rfl (by rw [hml]; rfl) (argsL := [(.ref r176), (.int 4), (.int (((3 : Int32) - kj2) - (1 : Int32))), (.ref b1), (.int (kj2 + (1 : Int32)))]) (rest := []) (lenOf pd_24 rfl) rfl (by show 2 * 0 + _ ≤ _; exact Nat.le_of_eq rfl) (hb hby at_445) (fun _ _ => ⟨rfl, eh198, (by decide : 6 + 0 ≤ _), (by decide : 24 + 0 ≤ _)⟩)
       dsimp only [Pt.U, Pt.locs, Pt.cells, Pt.slots] at X199 ql199 qy199 qz199 st199 hQ199
       rw [ql199, qy199, qz199] at X199
       obtain ⟨rfl, Nq199, eh199⟩ := hQ199
       have N199 := Fr.app N198 Nq199
       refine GoesW.step (B := T199.setTop (mkF m 448 #[.val (.int i0), .val (.int i1), .val (.int i2), .val (.int i3), .val (.int i4), .val (.int i5), .val (.ref b1), .val (.int 3), .val (.ref b143), .val (.ref b164), .val (.ref r176), .val (.int kj2), .val (.int (((3 : Int32) - kj2) - (1 : Int32)))] [(.int 1)])) st199 ?_
       refine GoesW.step (fun _ k => pw_ifNo X199.here hx (hb hby at_448) ((if0 _ _).trans (feq (by decide)).1) _ (pw_iconst X199.here hx (v := (1 : Int32)) (hb hby at_451) rfl _ (pw_goto X199.here hx (pc' := 456) (hb hby at_452) (by decide) (by decide) _ k))) ?_
       exact GoesW.retN X199 hS176 (Nat.le_refl _) hx eh199 (t := .boolean) Bd.returns (by simp) hlk (hb hby at_456) (by decide) (by decide) (⟨rfl, N199⟩)
      by_cases hc301_199 : (own_sep r_11) = (0 : Int32)
      · refine GoesW.step (fun _ k => pw_ifYes X191.here hx (pc' := 307) (hb hby at_301) ((if0 _ _).trans (teq hc301_199).1) (by decide) (by decide) _ k) ?_
        exact J192 kj1 (by rw [own_k3, if_pos hc301_199]; exact hkj1)
      · refine GoesW.step (fun _ k => pw_ifNo X191.here hx (hb hby at_301) ((if0 _ _).trans (feq hc301_199).1) _ (pw_iconst X191.here hx (v := (2 : Int32)) (hb hby at_304) rfl _ (pw_istore X191.here hx (l' := #[.val (.int i0), .val (.int i1), .val (.int i2), .val (.int i3), .val (.int i4), .val (.int i5), .val (.ref b1), .val (.int 3), .val (.ref b143), .val (.ref b164), .val (.ref r176), .val (.int 2), .unset]) (hb hby at_305) rfl _ k))) ?_
        exact J192 (2 : Int32) (by rw [own_k3, if_neg hc301_199])
     by_cases hc282_200 : (own_sep r_7) = (0 : Int32)
     · refine GoesW.step (fun _ k => pw_ifYes X188.here hx (pc' := 288) (hb hby at_282) ((if0 _ _).trans (teq hc282_200).1) (by decide) (by decide) _ k) ?_
       exact J189 kj0 (by rw [own_k2, if_pos hc282_200]; exact hkj0)
     · refine GoesW.step (fun _ k => pw_ifNo X188.here hx (hb hby at_282) ((if0 _ _).trans (feq hc282_200).1) _ (pw_iconst X188.here hx (v := (1 : Int32)) (hb hby at_285) rfl _ (pw_istore X188.here hx (l' := #[.val (.int i0), .val (.int i1), .val (.int i2), .val (.int i3), .val (.int i4), .val (.int i5), .val (.ref b1), .val (.int 3), .val (.ref b143), .val (.ref b164), .val (.ref r176), .val (.int 1), .unset]) (hb hby at_286) rfl _ k))) ?_
       exact J189 (1 : Int32) (by rw [own_k2, if_neg hc282_200])
    by_cases hc263_201 : (own_sep r_3) = (0 : Int32)
    · refine GoesW.step (fun _ k => pw_ifYes X185.here hx (pc' := 269) (hb hby at_263) ((if0 _ _).trans (teq hc263_201).1) (by decide) (by decide) _ k) ?_
      exact J186 (-1 : Int32) (by rw [own_k1, if_pos hc263_201]; exact rfl)
    · refine GoesW.step (fun _ k => pw_ifNo X185.here hx (hb hby at_263) ((if0 _ _).trans (feq hc263_201).1) _ (pw_iconst X185.here hx (v := (0 : Int32)) (hb hby at_266) rfl _ (pw_istore X185.here hx (l' := #[.val (.int i0), .val (.int i1), .val (.int i2), .val (.int i3), .val (.int i4), .val (.int i5), .val (.ref b1), .val (.int 3), .val (.ref b143), .val (.ref b164), .val (.ref r176), .val (.int 0), .unset]) (hb hby at_267) rfl _ k))) ?_
      exact J186 (0 : Int32) (by rw [own_k1, if_neg hc263_201])
  · refine GoesW.step (fun _ k => pw_istore X20.here hx (l' := #[.val (.int i0), .val (.int i1), .val (.int i2), .val (.int i3), .val (.int i4), .val (.int i5), .val (.ref b1), .val (.int 4), .unset, .unset, .unset, .unset, .unset]) (hb hby at_49) rfl _ (pw_iload X20.here hx (hb hby at_51) rfl _ (pw_ifYes X20.here hx (pc' := 64) (hb hby at_53) ((if0 _ _).trans (feq (by decide)).2) (by decide) (by decide) _ (pw_iload X20.here hx (hb hby at_64) rfl _ (pw_iconst X20.here hx (v := (1 : Int32)) (hb hby at_66) rfl _ (pw_icmpYes X20.here hx (pc' := 85) (hb hby at_67) (feq (by decide)).2 (by decide) (by decide) _ k)))))) ?_
    refine GoesW.step (fun _ k => pw_iload X20.here hx (hb hby at_85) rfl _ (pw_iconst X20.here hx (v := (2 : Int32)) (hb hby at_87) rfl _ (pw_icmpYes X20.here hx (pc' := 113) (hb hby at_88) (feq (by decide)).2 (by decide) (by decide) _ (pw_iload X20.here hx (hb hby at_113) rfl _ (pw_iconst X20.here hx (v := (3 : Int32)) (hb hby at_115) rfl _ (pw_icmpYes X20.here hx (pc' := 148) (hb hby at_116) (feq (by decide)).2 (by decide) (by decide) _ k)))))) ?_
    refine GoesW.step (fun _ k => pw_iload X20.here hx (hb hby at_148) rfl _ (pw_iconst X20.here hx (v := (4 : Int32)) (hb hby at_150) rfl _ (pw_icmpNo X20.here hx (hb hby at_151) (teq (by decide)).2 _ (pw_iconst X20.here hx (v := (4 : Int32)) (hb hby at_154) rfl _ k)))) ?_
    obtain ⟨T203, h203, k203, X203, e203, E203, A203, st203⟩ := newP (aty := .char) X20 hx hZ (own_w0 hw) e20 (g := (mkF m 155 #[.val (.int i0), .val (.int i1), .val (.int i2), .val (.int i3), .val (.int i4), .val (.int i5), .val (.ref b1), .val (.int 4), .unset, .unset, .unset, .unset, .unset] [(.int 4)])) rfl (hb hby at_155) rfl (by decide) (cap := 4) (by decide) (by decide) (by decide) (by decide)
    obtain ⟨b203, g203⟩ : ∃ z, z = h20.size := ⟨_, rfl⟩
    rw [← g203] at A203 st203
    have ne_b1_b203 : b1 ≠ b203 := Nat.ne_of_lt (Nat.lt_of_lt_of_le Vn20.lt (Nat.le_of_eq g203.symm))
    have g_b203 : n0 ≤ b203 := Nat.le_trans (own_z O_20) (Nat.le_of_eq g203.symm)
    have Sf_b203 := Safe.ext E203 CH22.1 (Safe.new (Nat.le_of_eq g203.symm))
    have Sf204 := Safe.ext E203 CH22.1 Sf21
    have CH205 := CH22.trans (CHr.ext E203 CH22.1)
    have O_203 := O_20.ext E203
    have V_b203 : Arv Z h203 b203 k203 .char (4 : Int32) [(.int 0), (.int 0), (.int 0), (.int 0)] (.int 0) := (Arv.new A203 (by decide)).pad (pad_rep [] (.int 0) 4)
    refine GoesW.step (B := T203.setTop (mkF m 157 #[.val (.int i0), .val (.int i1), .val (.int i2), .val (.int i3), .val (.int i4), .val (.int i5), .val (.ref b1), .val (.int 4), .unset, .unset, .unset, .unset, .unset] [(.ref b203)])) st203 ?_
    refine GoesW.step (fun _ k => pw_dup X203.here hx (hb hby at_157) rfl _ (pw_iconst X203.here hx (v := (0 : Int32)) (hb hby at_158) rfl _ (pw_aload X203.here hx (hb hby at_159) rfl rfl _ (pw_iconst X203.here hx (v := (0 : Int32)) (hb hby at_161) rfl _ k)))) ?_
    have f206 := (Vn20.ext E203)
    obtain ⟨c207, Ar207, -, Sz207, Nn207, Hs207, -⟩ := id f206
    have hin207 : ¬ ((0 : Int32) < 0 ∨ c207.slots.size ≤ ((0 : Int32)).toNatClampNeg) := inb_of Sz207 ⟨by decide, by decide⟩
    refine GoesW.step (B := T203.setTop (mkF m 163 #[.val (.int i0), .val (.int i1), .val (.int i2), .val (.int i3), .val (.int i4), .val (.int i5), .val (.ref b1), .val (.int 4), .unset, .unset, .unset, .unset, .unset] [(.int r_3), (.int 0), (.ref b203), (.ref b203)])) (X203.caload hx (j := (0 : Int32)) (v := (.int r_3)) (by rw [e203]; exact Ar207.1) (State.isArrayOf_alike hZ.alike Ar207.2.1) Ar207.2.2 hin207 (Has.at Hs207 hin207 rfl) (g := (mkF m 162 #[.val (.int i0), .val (.int i1), .val (.int i2), .val (.int i3), .val (.int i4), .val (.int i5), .val (.ref b1), .val (.int 4), .unset, .unset, .unset, .unset, .unset] [(.int 0), (.ref b1), (.int 0), (.ref b203), (.ref b203)])) rfl rfl (hb hby at_162)) ?_
    obtain ⟨c208, Ar208, q208, Sz208, Nn208, Hs208, Gs208⟩ := id V_b203
    have hin208 : ¬ ((0 : Int32) < 0 ∨ c208.slots.size ≤ ((0 : Int32)).toNatClampNeg) := inb_of Sz208 ⟨by decide, by decide⟩
    obtain ⟨T208, h208, X208, e208, W208, st208⟩ := stC X203 hx hZ e203 Ar208 (j := (0 : Int32)) hin208 (g := (mkF m 163 #[.val (.int i0), .val (.int i1), .val (.int i2), .val (.int i3), .val (.int i4), .val (.int i5), .val (.ref b1), .val (.int 4), .unset, .unset, .unset, .unset, .unset] [(.int r_3), (.int 0), (.ref b203), (.ref b203)])) rfl rfl (hb hby at_163)
    have Sf209 := Safe.wr W208 Sf_b203 CH205.1 Sf204
    have Sf210 := Safe.wr W208 Sf_b203 CH205.1 Sf_b203
    have CH211 := CH205.trans (CHr.wr W208 Sf_b203 CH205.1)
    have V208 : Arv Z h208 b203 k203 .char (4 : Int32) [(.int (nar .char r_3)), (.int 0), (.int 0), (.int 0)] (.int 0) := Arv.set Ar208 q208 Sz208 Nn208 Hs208 Gs208 (fits_nar_char _) W208 0 rfl (Nat.le_of_ble_eq_true rfl)
    have Vn208 : Arv Z h208 b203 k203 .char (4 : Int32) [(.int r_3), (.int 0), (.int 0), (.int 0)] (.int 0) := by have q := V208; rw [own_nr hok_3] at q; exact q
    have N208 := Fr.snoc X208 N20 g_b203
    have O_208 := O_203.wr W208 g_b203
    refine GoesW.step (B := T208.setTop (mkF m 164 #[.val (.int i0), .val (.int i1), .val (.int i2), .val (.int i3), .val (.int i4), .val (.int i5), .val (.ref b1), .val (.int 4), .unset, .unset, .unset, .unset, .unset] [(.ref b203)])) st208 ?_
    refine GoesW.step (fun _ k => pw_dup X208.here hx (hb hby at_164) rfl _ (pw_iconst X208.here hx (v := (1 : Int32)) (hb hby at_165) rfl _ (pw_aload X208.here hx (hb hby at_166) rfl rfl _ (pw_iconst X208.here hx (v := (1 : Int32)) (hb hby at_168) rfl _ k)))) ?_
    have f212 := (f206.other W208 ne_b1_b203)
    obtain ⟨c213, Ar213, -, Sz213, Nn213, Hs213, -⟩ := id f212
    have hin213 : ¬ ((1 : Int32) < 0 ∨ c213.slots.size ≤ ((1 : Int32)).toNatClampNeg) := inb_of Sz213 ⟨by decide, by decide⟩
    refine GoesW.step (B := T208.setTop (mkF m 170 #[.val (.int i0), .val (.int i1), .val (.int i2), .val (.int i3), .val (.int i4), .val (.int i5), .val (.ref b1), .val (.int 4), .unset, .unset, .unset, .unset, .unset] [(.int r_7), (.int 1), (.ref b203), (.ref b203)])) (X208.caload hx (j := (1 : Int32)) (v := (.int r_7)) (by rw [e208]; exact Ar213.1) (State.isArrayOf_alike hZ.alike Ar213.2.1) Ar213.2.2 hin213 (Has.at Hs213 hin213 rfl) (g := (mkF m 169 #[.val (.int i0), .val (.int i1), .val (.int i2), .val (.int i3), .val (.int i4), .val (.int i5), .val (.ref b1), .val (.int 4), .unset, .unset, .unset, .unset, .unset] [(.int 1), (.ref b1), (.int 1), (.ref b203), (.ref b203)])) rfl rfl (hb hby at_169)) ?_
    obtain ⟨c214, Ar214, q214, Sz214, Nn214, Hs214, Gs214⟩ := id Vn208
    have hin214 : ¬ ((1 : Int32) < 0 ∨ c214.slots.size ≤ ((1 : Int32)).toNatClampNeg) := inb_of Sz214 ⟨by decide, by decide⟩
    obtain ⟨T214, h214, X214, e214, W214, st214⟩ := stC X208 hx hZ e208 Ar214 (j := (1 : Int32)) hin214 (g := (mkF m 170 #[.val (.int i0), .val (.int i1), .val (.int i2), .val (.int i3), .val (.int i4), .val (.int i5), .val (.ref b1), .val (.int 4), .unset, .unset, .unset, .unset, .unset] [(.int r_7), (.int 1), (.ref b203), (.ref b203)])) rfl rfl (hb hby at_170)
    have Sf215 := Safe.wr W214 Sf210 CH211.1 Sf209
    have Sf216 := Safe.wr W214 Sf210 CH211.1 Sf210
    have CH217 := CH211.trans (CHr.wr W214 Sf210 CH211.1)
    have V214 : Arv Z h214 b203 k203 .char (4 : Int32) [(.int r_3), (.int (nar .char r_7)), (.int 0), (.int 0)] (.int 0) := Arv.set Ar214 q214 Sz214 Nn214 Hs214 Gs214 (fits_nar_char _) W214 1 rfl (Nat.le_of_ble_eq_true rfl)
    have Vn214 : Arv Z h214 b203 k203 .char (4 : Int32) [(.int r_3), (.int r_7), (.int 0), (.int 0)] (.int 0) := by have q := V214; rw [own_nr hok_7] at q; exact q
    have N214 := Fr.snoc X214 N208 g_b203
    have O_214 := O_208.wr W214 g_b203
    refine GoesW.step (B := T214.setTop (mkF m 171 #[.val (.int i0), .val (.int i1), .val (.int i2), .val (.int i3), .val (.int i4), .val (.int i5), .val (.ref b1), .val (.int 4), .unset, .unset, .unset, .unset, .unset] [(.ref b203)])) st214 ?_
    refine GoesW.step (fun _ k => pw_dup X214.here hx (hb hby at_171) rfl _ (pw_iconst X214.here hx (v := (2 : Int32)) (hb hby at_172) rfl _ (pw_aload X214.here hx (hb hby at_173) rfl rfl _ (pw_iconst X214.here hx (v := (2 : Int32)) (hb hby at_175) rfl _ k)))) ?_
    have f218 := (f212.other W214 ne_b1_b203)
    obtain ⟨c219, Ar219, -, Sz219, Nn219, Hs219, -⟩ := id f218
    have hin219 : ¬ ((2 : Int32) < 0 ∨ c219.slots.size ≤ ((2 : Int32)).toNatClampNeg) := inb_of Sz219 ⟨by decide, by decide⟩
    refine GoesW.step (B := T214.setTop (mkF m 177 #[.val (.int i0), .val (.int i1), .val (.int i2), .val (.int i3), .val (.int i4), .val (.int i5), .val (.ref b1), .val (.int 4), .unset, .unset, .unset, .unset, .unset] [(.int r_11), (.int 2), (.ref b203), (.ref b203)])) (X214.caload hx (j := (2 : Int32)) (v := (.int r_11)) (by rw [e214]; exact Ar219.1) (State.isArrayOf_alike hZ.alike Ar219.2.1) Ar219.2.2 hin219 (Has.at Hs219 hin219 rfl) (g := (mkF m 176 #[.val (.int i0), .val (.int i1), .val (.int i2), .val (.int i3), .val (.int i4), .val (.int i5), .val (.ref b1), .val (.int 4), .unset, .unset, .unset, .unset, .unset] [(.int 2), (.ref b1), (.int 2), (.ref b203), (.ref b203)])) rfl rfl (hb hby at_176)) ?_
    obtain ⟨c220, Ar220, q220, Sz220, Nn220, Hs220, Gs220⟩ := id Vn214
    have hin220 : ¬ ((2 : Int32) < 0 ∨ c220.slots.size ≤ ((2 : Int32)).toNatClampNeg) := inb_of Sz220 ⟨by decide, by decide⟩
    obtain ⟨T220, h220, X220, e220, W220, st220⟩ := stC X214 hx hZ e214 Ar220 (j := (2 : Int32)) hin220 (g := (mkF m 177 #[.val (.int i0), .val (.int i1), .val (.int i2), .val (.int i3), .val (.int i4), .val (.int i5), .val (.ref b1), .val (.int 4), .unset, .unset, .unset, .unset, .unset] [(.int r_11), (.int 2), (.ref b203), (.ref b203)])) rfl rfl (hb hby at_177)
    have Sf221 := Safe.wr W220 Sf216 CH217.1 Sf215
    have Sf222 := Safe.wr W220 Sf216 CH217.1 Sf216
    have CH223 := CH217.trans (CHr.wr W220 Sf216 CH217.1)
    have V220 : Arv Z h220 b203 k203 .char (4 : Int32) [(.int r_3), (.int r_7), (.int (nar .char r_11)), (.int 0)] (.int 0) := Arv.set Ar220 q220 Sz220 Nn220 Hs220 Gs220 (fits_nar_char _) W220 2 rfl (Nat.le_of_ble_eq_true rfl)
    have Vn220 : Arv Z h220 b203 k203 .char (4 : Int32) [(.int r_3), (.int r_7), (.int r_11), (.int 0)] (.int 0) := by have q := V220; rw [own_nr hok_11] at q; exact q
    have N220 := Fr.snoc X220 N214 g_b203
    have O_220 := O_214.wr W220 g_b203
    refine GoesW.step (B := T220.setTop (mkF m 178 #[.val (.int i0), .val (.int i1), .val (.int i2), .val (.int i3), .val (.int i4), .val (.int i5), .val (.ref b1), .val (.int 4), .unset, .unset, .unset, .unset, .unset] [(.ref b203)])) st220 ?_
    refine GoesW.step (fun _ k => pw_dup X220.here hx (hb hby at_178) rfl _ (pw_iconst X220.here hx (v := (3 : Int32)) (hb hby at_179) rfl _ (pw_aload X220.here hx (hb hby at_180) rfl rfl _ (pw_iconst X220.here hx (v := (3 : Int32)) (hb hby at_182) rfl _ k)))) ?_
    have f224 := (f218.other W220 ne_b1_b203)
    obtain ⟨c225, Ar225, -, Sz225, Nn225, Hs225, -⟩ := id f224
    have hin225 : ¬ ((3 : Int32) < 0 ∨ c225.slots.size ≤ ((3 : Int32)).toNatClampNeg) := inb_of Sz225 ⟨by decide, by decide⟩
    refine GoesW.step (B := T220.setTop (mkF m 184 #[.val (.int i0), .val (.int i1), .val (.int i2), .val (.int i3), .val (.int i4), .val (.int i5), .val (.ref b1), .val (.int 4), .unset, .unset, .unset, .unset, .unset] [(.int r_15), (.int 3), (.ref b203), (.ref b203)])) (X220.caload hx (j := (3 : Int32)) (v := (.int r_15)) (by rw [e220]; exact Ar225.1) (State.isArrayOf_alike hZ.alike Ar225.2.1) Ar225.2.2 hin225 (Has.at Hs225 hin225 rfl) (g := (mkF m 183 #[.val (.int i0), .val (.int i1), .val (.int i2), .val (.int i3), .val (.int i4), .val (.int i5), .val (.ref b1), .val (.int 4), .unset, .unset, .unset, .unset, .unset] [(.int 3), (.ref b1), (.int 3), (.ref b203), (.ref b203)])) rfl rfl (hb hby at_183)) ?_
    obtain ⟨c226, Ar226, q226, Sz226, Nn226, Hs226, Gs226⟩ := id Vn220
    have hin226 : ¬ ((3 : Int32) < 0 ∨ c226.slots.size ≤ ((3 : Int32)).toNatClampNeg) := inb_of Sz226 ⟨by decide, by decide⟩
    obtain ⟨T226, h226, X226, e226, W226, st226⟩ := stC X220 hx hZ e220 Ar226 (j := (3 : Int32)) hin226 (g := (mkF m 184 #[.val (.int i0), .val (.int i1), .val (.int i2), .val (.int i3), .val (.int i4), .val (.int i5), .val (.ref b1), .val (.int 4), .unset, .unset, .unset, .unset, .unset] [(.int r_15), (.int 3), (.ref b203), (.ref b203)])) rfl rfl (hb hby at_184)
    have Sf227 := Safe.wr W226 Sf222 CH223.1 Sf221
    have Sf228 := Safe.wr W226 Sf222 CH223.1 Sf222
    have CH229 := CH223.trans (CHr.wr W226 Sf222 CH223.1)
    have V226 : Arv Z h226 b203 k203 .char (4 : Int32) [(.int r_3), (.int r_7), (.int r_11), (.int (nar .char r_15))] (.int 0) := Arv.set Ar226 q226 Sz226 Nn226 Hs226 Gs226 (fits_nar_char _) W226 3 rfl (Nat.le_of_ble_eq_true rfl)
    have Vn226 : Arv Z h226 b203 k203 .char (4 : Int32) [(.int r_3), (.int r_7), (.int r_11), (.int r_15)] (.int 0) := by have q := V226; rw [own_nr hok_15] at q; exact q
    have N226 := Fr.snoc X226 N220 g_b203
    have O_226 := O_220.wr W226 g_b203
    refine GoesW.step (B := T226.setTop (mkF m 185 #[.val (.int i0), .val (.int i1), .val (.int i2), .val (.int i3), .val (.int i4), .val (.int i5), .val (.ref b1), .val (.int 4), .unset, .unset, .unset, .unset, .unset] [(.ref b203)])) st226 ?_
    refine GoesW.step (fun _ k => pw_astore X226.here hx (l' := #[.val (.int i0), .val (.int i1), .val (.int i2), .val (.int i3), .val (.int i4), .val (.int i5), .val (.ref b1), .val (.int 4), .val (.ref b203), .unset, .unset, .unset, .unset]) (hb hby at_185) rfl rfl _ (pw_goto X226.here hx (pc' := 230) (hb hby at_187) (by decide) (by decide) _ k)) ?_
    obtain ⟨T230, h230, X230, e230, E230, A230, D230, -, st230⟩ := newO X226 hx hZ hown (own_w5 hw) (own_w6 hw) (own_w7 hw) e226 (g := (mkF m 230 #[.val (.int i0), .val (.int i1), .val (.int i2), .val (.int i3), .val (.int i4), .val (.int i5), .val (.ref b1), .val (.int 4), .val (.ref b203), .unset, .unset, .unset, .unset] [])) rfl (hb hby at_230) (by decide) (by decide)
    obtain ⟨b230, g230⟩ : ∃ z, z = h226.size := ⟨_, rfl⟩
    rw [← g230] at A230 D230 st230
    have f231 := (f224.other W226 ne_b1_b203)
    have ne_b1_b230 : b1 ≠ b230 := Nat.ne_of_lt (Nat.lt_of_lt_of_le f231.lt (Nat.le_of_eq g230.symm))
    have ne_b203_b230 : b203 ≠ b230 := Nat.ne_of_lt (Nat.lt_of_lt_of_le Vn226.lt (Nat.le_of_eq g230.symm))
    have g_b230 : n0 ≤ b230 := Nat.le_trans (own_z O_226) (Nat.le_of_eq g230.symm)
    have Sf_b230 := Safe.ext E230 CH229.1 (Safe.new (Nat.le_of_eq g230.symm))
    have Sf232 := Safe.ext E230 CH229.1 Sf227
    have Sf233 := Safe.ext E230 CH229.1 Sf228
    have CH234 := CH229.trans (CHr.ext E230 CH229.1)
    have O_230 := O_226.ext E230
    have F230_coder : Fld Z h230 b230 "java/lang/String" "coder" "B" (.int 0) := D230 (Or.inr (own_w31 hw)) (ty := .byte) (by decide)
    have F230_value : Fld Z h230 b230 "java/lang/String" "value" "[B" .null := D230 (Or.inr (own_w33 hw)) (ty := (.array .byte)) (by decide)
    refine GoesW.step (B := T230.setTop (mkF m 233 #[.val (.int i0), .val (.int i1), .val (.int i2), .val (.int i3), .val (.int i4), .val (.int i5), .val (.ref b1), .val (.int 4), .val (.ref b203), .unset, .unset, .unset, .unset] [(.ref b230)])) st230 ?_
    refine GoesW.step (fun _ k => pw_dup X230.here hx (hb hby at_233) rfl _ (pw_aload X230.here hx (hb hby at_234) rfl rfl _ k)) ?_
    have f236 := (Vn226.ext E230)
    have f237 := S_COMPACT_STRINGS.ext O_230.2
    obtain ⟨_, _, ⟨T235, qL235, qk235, qn235⟩, -, X235, ⟨Lc235, hQ235, ql235, qy235, qz235⟩, st235⟩ := X230.specialBack hx (y := (⟨"java/lang/String", "<init>", "([C)V"⟩ : MethodName)) rfl hown (mvT hZ (own_w8 hw)) (mvT hZ (own_w9 hw)) (mvT hZ (own_w10 hw)) (by decide) (backOf (W := 1) (rmSI_4 l Z a0 hw [] b230 b203 k203 cs r_3 r_7 r_11 r_15 h230 n0 O_230 A230 g_b230 F230_value F230_coder f236 f237 hcs hok_3 hok_7 hok_11 hok_15) hZ (own_w10 hw) (own_w7 hw) (by decide) (by decide)) (g := (mkF m 236 #[.val (.int i0), .val (.int i1), .val (.int i2), .val (.int i3), .val (.int i4), .val (.int i5), .val (.ref b1), .val (.int 4), .val (.ref b203), .unset, .unset, .unset, .unset] [(.ref b203), (.ref b230), (.ref b230)])) rfl (by rw [hml]; rfl) (Steps.refl _) (a := b230) (argsL := [(.ref b203)]) (rest := [(.ref b230)]) (lenOf pd_22 rfl) rfl (by show 2 * 0 + _ ≤ _; exact Nat.le_of_eq rfl) (hb hby at_236) (fun _ _ => ⟨rfl, e230, (by decide : 3 + 1 ≤ _), (by decide : 13 + 4 ≤ _)⟩)
    dsimp only [Pt.U, Pt.locs, Pt.cells, Pt.slots] at X235 ql235 qy235 qz235 st235 hQ235
    rw [ql235, qy235, qz235] at X235
    obtain ⟨rfl, Nq235, Kp235, Ex235, sv235, sk235, Fsv235, Fsc235, Vsv235⟩ := hQ235
    have Sf238 := Safe.keep Kp235 (sfS Sf_b230 sf0) CH234.1 Sf232
    have Sf239 := Safe.keep Kp235 (sfS Sf_b230 sf0) CH234.1 Sf233
    have Sf240 := Safe.keep Kp235 (sfS Sf_b230 sf0) CH234.1 Sf_b230
    have CH241 := CH234.trans (CHr.keep Kp235 (sfS Sf_b230 sf0) CH234.1)
    have O_235 := O_230.keep Kp235 (allS g_b230 all0)
    have N235 := Fr.app N226 Nq235
    refine GoesW.via (B := T235.setTop (mkF m 239 #[.val (.int i0), .val (.int i1), .val (.int i2), .val (.int i3), .val (.int i4), .val (.int i5), .val (.ref b1), .val (.int 4), .val (.ref b203), .unset, .unset, .unset, .unset] [(.ref b230)])) st235 ?_
    refine GoesW.step (fun _ k => pw_astore X235.here hx (l' := #[.val (.int i0), .val (.int i1), .val (.int i2), .val (.int i3), .val (.int i4), .val (.int i5), .val (.ref b1), .val (.int 4), .val (.ref b203), .val (.ref b230), .unset, .unset, .unset]) (hb hby at_239) rfl rfl _ (pw_aload X235.here hx (hb hby at_241) rfl rfl _ k)) ?_
    have f243 := S_COMPACT_STRINGS.ext O_235.2
    obtain ⟨_, vw242, ⟨T242, qL242, qk242, qn242⟩, -, Xr242, S2242, sz242, ⟨Lc242, hQ242, ql242, qy242, qz242, Hc242⟩, st242⟩ := callSS X235 hx (y := (⟨"com/example/partwright/partwright/reader/FormPart", "lastPathComponent", "(Ljava/lang/String;)Ljava/lang/String;"⟩ : MethodName)) hown (mvT hZ (own_w34 hw)) (mvT hZ (own_w35 hw)) (mvT hZ (own_w36 hw)) (mvT hZ (own_w37 hw)) (by decide) (backOfSH (W := 0) (rmLP l Z a0 hw [] b230 sv235 sk235 (4 : Int32) [(own_b r_3), (own_b r_7), (own_b r_11), (own_b r_15)] cs fm T235.heap n0 O_235 FS Ex235 Fsc235 Fsv235 Vsv235 rfl (by decide)) hZ (own_w37 hw) (own_w36 hw) (by decide) (by decide) (own_EW hw) CH241.1) (g := (mkF m 243 #[.val (.int i0), .val (.int i1), .val (.int i2), .val (.int i3), .val (.int i4), .val (.int i5), .val (.ref b1), .val (.int 4), .val (.ref b203), .val (.ref b230), .unset, .unset, .unset] [(.ref b230)])) rfl (by rw [hml]; rfl) (argsL := [(.ref b230)]) (rest := []) (lenOf pd_23 rfl) rfl (by show 2 * 0 + _ ≤ _; exact Nat.le_of_eq rfl) (hb hby at_243) (fun _ _ => ⟨rfl, rfl, (by decide : 4 + 2 ≤ _), (by decide : 17 + 9 ≤ _)⟩)
    dsimp only [Pt.U, Pt.locs, Pt.cells, Pt.slots] at Xr242 S2242 sz242 ql242 qy242 qz242 st242 hQ242 Hc242
    rw [ql242, qy242, qz242] at Xr242
    obtain ⟨X242, hS242, hZ242, hown242⟩ := rebS hS0 (by exact (Nat.le_trans (Nat.le_trans (Nat.le_trans (Nat.le_trans (Nat.le_trans (Nat.le_trans (Nat.le_trans (Nat.le_trans (Nat.le_trans (Nat.le_trans (Nat.le_trans (Nat.le_trans (Nat.le_trans (Nat.le_refl _) E1.1) (Nat.le_of_eq W4.size.symm)) (Nat.le_of_eq W8.size.symm)) (Nat.le_of_eq W12.size.symm)) (Nat.le_of_eq W16.size.symm)) (Nat.le_of_eq W20.size.symm)) E203.1) (Nat.le_of_eq W208.size.symm)) (Nat.le_of_eq W214.size.symm)) (Nat.le_of_eq W220.size.symm)) (Nat.le_of_eq W226.size.symm)) E230.1) Kp235.1)) Xr242 S2242 sz242 hZ hown
    have CHc242 := CH241.trans Hc242
    obtain ⟨r242, vb242, kv242, mm242, bb242, rfl, Nq242, Kp242, hbb242, hmm242, Er242, Fv242, Fc242, Vr242⟩ := hQ242
    have f245 := ((f231.ext E230).keep Kp235 (ninS ne_b1_b230 nin0))
    have Sf244 := CHr.safe Hc242 f245.lt Sf238
    have f247 := (f236.keep Kp235 (ninS ne_b203_b230 nin0))
    have Sf246 := CHr.safe Hc242 f247.lt Sf239
    have Sf248 := CHr.safe Hc242 Ex235.lt Sf240
    have O_242 := O_235.keep Kp242 all0
    have N242 := Fr.app N235 Nq242
    refine GoesW.via (B := T242.setTop (mkF m 246 #[.val (.int i0), .val (.int i1), .val (.int i2), .val (.int i3), .val (.int i4), .val (.int i5), .val (.ref b1), .val (.int 4), .val (.ref b203), .val (.ref b230), .unset, .unset, .unset] [(.ref r242)])) st242 ?_
    refine GoesW.step (fun _ k => pw_astore X242.here hx (l' := #[.val (.int i0), .val (.int i1), .val (.int i2), .val (.int i3), .val (.int i4), .val (.int i5), .val (.ref b1), .val (.int 4), .val (.ref b203), .val (.ref b230), .val (.ref r242), .unset, .unset]) (hb hby at_246) rfl rfl _ (pw_iconst X242.here hx (v := (-1 : Int32)) (hb hby at_248) rfl _ (pw_istore X242.here hx (l' := #[.val (.int i0), .val (.int i1), .val (.int i2), .val (.int i3), .val (.int i4), .val (.int i5), .val (.ref b1), .val (.int 4), .val (.ref b203), .val (.ref b230), .val (.ref r242), .val (.int (-1)), .unset]) (hb hby at_249) rfl _ (pw_iload X242.here hx (hb hby at_251) rfl _ (pw_ifNo X242.here hx (hb hby at_253) ((if0 _ _).trans (tlt (by decide)).2.2.2) _ (pw_aload X242.here hx (hb hby at_256) rfl rfl _ k)))))) ?_
    refine GoesW.step (fun _ k => pw_iconst X242.here hx (v := (0 : Int32)) (hb hby at_258) rfl _ k) ?_
    have f249 := (f245.keep Kp242 nin0)
    obtain ⟨c250, Ar250, -, Sz250, Nn250, Hs250, -⟩ := id f249
    have hin250 : ¬ ((0 : Int32) < 0 ∨ c250.slots.size ≤ ((0 : Int32)).toNatClampNeg) := inb_of Sz250 ⟨by decide, by decide⟩
    refine GoesW.step (B := T242.setTop (mkF m 260 #[.val (.int i0), .val (.int i1), .val (.int i2), .val (.int i3), .val (.int i4), .val (.int i5), .val (.ref b1), .val (.int 4), .val (.ref b203), .val (.ref b230), .val (.ref r242), .val (.int (-1)), .unset] [(.int r_3)])) (X242.caload hx (j := (0 : Int32)) (v := (.int r_3)) (by exact Ar250.1) (State.isArrayOf_alike hZ242.alike Ar250.2.1) Ar250.2.2 hin250 (Has.at Hs250 hin250 rfl) (g := (mkF m 259 #[.val (.int i0), .val (.int i1), .val (.int i2), .val (.int i3), .val (.int i4), .val (.int i5), .val (.ref b1), .val (.int 4), .val (.ref b203), .val (.ref b230), .val (.ref r242), .val (.int (-1)), .unset] [(.int 0), (.ref b1)])) rfl rfl (hb hby at_259)) ?_
    obtain ⟨_, _, ⟨T251, qL251, qk251, qn251⟩, -, X251, ⟨Lc251, hQ251, ql251, qy251, qz251⟩, st251⟩ := Jvm.LawKit.callS X242 hx (y := (⟨"com/example/partwright/partwright/reader/FormPartLastPathComponentPinLaw", "sep", "(C)Z"⟩ : MethodName)) hown242 (mvT hZ242 (own_w117 hw)) (mvT hZ242 (own_w118 hw)) (mvT hZ242 (own_w3 hw)) (mvT hZ242 (own_w119 hw)) (by decide) (backOf (W := 0) (rm27 l Z a0 hw [] r_3 T242.heap n0 O_242 ) hZ242 (own_w119 hw) (own_w3 hw) (by decide) (by decide)) (g := (mkF m 260 #[.val (.int i0), .val (.int i1), .val (.int i2), .val (.int i3), .val (.int i4), .val (.int i5), .val (.ref b1), .val (.int 4), .val (.ref b203), .val (.ref b230), .val (.ref r242), .val (.int (-1)), .unset] [(.int r_3)])) rfl (by rw [hml]; rfl) (argsL := [(.int r_3)]) (rest := []) (lenOf pd_25 rfl) rfl (by show 2 * 0 + _ ≤ _; exact Nat.le_of_eq rfl) (hb hby at_260) (fun _ _ => ⟨rfl, rfl, (by decide : 6 + 0 ≤ _), (by decide : 26 + 0 ≤ _)⟩)
    dsimp only [Pt.U, Pt.locs, Pt.cells, Pt.slots] at X251 ql251 qy251 qz251 st251 hQ251
    rw [ql251, qy251, qz251] at X251
    obtain ⟨rfl, Nq251, eh251⟩ := hQ251
    have N251 := Fr.app N242 Nq251
    refine GoesW.step (B := T251.setTop (mkF m 263 #[.val (.int i0), .val (.int i1), .val (.int i2), .val (.int i3), .val (.int i4), .val (.int i5), .val (.ref b1), .val (.int 4), .val (.ref b203), .val (.ref b230), .val (.ref r242), .val (.int (-1)), .unset] [(.int (own_sep r_3))])) st251 ?_
    have J252 : ∀ (kj0 : Int32), kj0 = own_k1 r_3 → GoesW p e below s (Q0 Z i0 i1 i2 i3 i4 i5 cs fm h0 n0) room_1.cells room_1.slots (T251.setTop (mkF m 269 #[.val (.int i0), .val (.int i1), .val (.int i2), .val (.int i3), .val (.int i4), .val (.int i5), .val (.ref b1), .val (.int 4), .val (.ref b203), .val (.ref b230), .val (.ref r242), .val (.int kj0), .unset] [])) := by
     intro kj0 hkj0
     refine GoesW.step (fun _ k => pw_iload X251.here hx (hb hby at_269) rfl _ (pw_iconst X251.here hx (v := (1 : Int32)) (hb hby at_271) rfl _ (pw_icmpNo X251.here hx (hb hby at_272) (tlt (by decide)).2.2.2 _ (pw_aload X251.here hx (hb hby at_275) rfl rfl _ (pw_iconst X251.here hx (v := (1 : Int32)) (hb hby at_277) rfl _ k))))) ?_
     obtain ⟨c253, Ar253, -, Sz253, Nn253, Hs253, -⟩ := id f249
     have hin253 : ¬ ((1 : Int32) < 0 ∨ c253.slots.size ≤ ((1 : Int32)).toNatClampNeg) := inb_of Sz253 ⟨by decide, by decide⟩
     refine GoesW.step (B := T251.setTop (mkF m 279 #[.val (.int i0), .val (.int i1), .val (.int i2), .val (.int i3), .val (.int i4), .val (.int i5), .val (.ref b1), .val (.int 4), .val (.ref b203), .val (.ref b230), .val (.ref r242), .val (.int kj0), .unset] [(.int r_7)])) (X251.caload hx (j := (1 : Int32)) (v := (.int r_7)) (by rw [eh251]; exact Ar253.1) (State.isArrayOf_alike hZ242.alike Ar253.2.1) Ar253.2.2 hin253 (Has.at Hs253 hin253 rfl) (g := (mkF m 278 #[.val (.int i0), .val (.int i1), .val (.int i2), .val (.int i3), .val (.int i4), .val (.int i5), .val (.ref b1), .val (.int 4), .val (.ref b203), .val (.ref b230), .val (.ref r242), .val (.int kj0), .unset] [(.int 1), (.ref b1)])) rfl rfl (hb hby at_278)) ?_
     obtain ⟨_, _, ⟨T254, qL254, qk254, qn254⟩, -, X254, ⟨Lc254, hQ254, ql254, qy254, qz254⟩, st254⟩ := Jvm.LawKit.callS X251 hx (y := (⟨"com/example/partwright/partwright/reader/FormPartLastPathComponentPinLaw", "sep", "(C)Z"⟩ : MethodName)) hown242 (mvT hZ242 (own_w117 hw)) (mvT hZ242 (own_w118 hw)) (mvT hZ242 (own_w3 hw)) (mvT hZ242 (own_w119 hw)) (by decide) (backOf (W := 0) (rm27 l Z a0 hw [] r_7 T242.heap n0 O_242 ) hZ242 (own_w119 hw) (own_w3 hw) (by decide) (by decide)) (g := (mkF m 279 #[.val (.int i0), .val (.int i1), .val (.int i2), .val (.int i3), .val (.int i4), .val (.int i5), .val (.ref b1), .val (.int 4), .val (.ref b203), .val (.ref b230), .val (.ref r242), .val (.int kj0), .unset] [(.int r_7)])) rfl (by rw [hml]; rfl) (argsL := [(.int r_7)]) (rest := []) (lenOf pd_25 rfl) rfl (by show 2 * 0 + _ ≤ _; exact Nat.le_of_eq rfl) (hb hby at_279) (fun _ _ => ⟨rfl, eh251, (by decide : 6 + 0 ≤ _), (by decide : 26 + 0 ≤ _)⟩)
     dsimp only [Pt.U, Pt.locs, Pt.cells, Pt.slots] at X254 ql254 qy254 qz254 st254 hQ254
     rw [ql254, qy254, qz254] at X254
     obtain ⟨rfl, Nq254, eh254⟩ := hQ254
     have N254 := Fr.app N251 Nq254
     refine GoesW.step (B := T254.setTop (mkF m 282 #[.val (.int i0), .val (.int i1), .val (.int i2), .val (.int i3), .val (.int i4), .val (.int i5), .val (.ref b1), .val (.int 4), .val (.ref b203), .val (.ref b230), .val (.ref r242), .val (.int kj0), .unset] [(.int (own_sep r_7))])) st254 ?_
     have J255 : ∀ (kj1 : Int32), kj1 = own_k2 r_3 r_7 → GoesW p e below s (Q0 Z i0 i1 i2 i3 i4 i5 cs fm h0 n0) room_1.cells room_1.slots (T254.setTop (mkF m 288 #[.val (.int i0), .val (.int i1), .val (.int i2), .val (.int i3), .val (.int i4), .val (.int i5), .val (.ref b1), .val (.int 4), .val (.ref b203), .val (.ref b230), .val (.ref r242), .val (.int kj1), .unset] [])) := by
      intro kj1 hkj1
      refine GoesW.step (fun _ k => pw_iload X254.here hx (hb hby at_288) rfl _ (pw_iconst X254.here hx (v := (2 : Int32)) (hb hby at_290) rfl _ (pw_icmpNo X254.here hx (hb hby at_291) (tlt (by decide)).2.2.2 _ (pw_aload X254.here hx (hb hby at_294) rfl rfl _ (pw_iconst X254.here hx (v := (2 : Int32)) (hb hby at_296) rfl _ k))))) ?_
      obtain ⟨c256, Ar256, -, Sz256, Nn256, Hs256, -⟩ := id f249
      have hin256 : ¬ ((2 : Int32) < 0 ∨ c256.slots.size ≤ ((2 : Int32)).toNatClampNeg) := inb_of Sz256 ⟨by decide, by decide⟩
      refine GoesW.step (B := T254.setTop (mkF m 298 #[.val (.int i0), .val (.int i1), .val (.int i2), .val (.int i3), .val (.int i4), .val (.int i5), .val (.ref b1), .val (.int 4), .val (.ref b203), .val (.ref b230), .val (.ref r242), .val (.int kj1), .unset] [(.int r_11)])) (X254.caload hx (j := (2 : Int32)) (v := (.int r_11)) (by rw [eh254]; exact Ar256.1) (State.isArrayOf_alike hZ242.alike Ar256.2.1) Ar256.2.2 hin256 (Has.at Hs256 hin256 rfl) (g := (mkF m 297 #[.val (.int i0), .val (.int i1), .val (.int i2), .val (.int i3), .val (.int i4), .val (.int i5), .val (.ref b1), .val (.int 4), .val (.ref b203), .val (.ref b230), .val (.ref r242), .val (.int kj1), .unset] [(.int 2), (.ref b1)])) rfl rfl (hb hby at_297)) ?_
      obtain ⟨_, _, ⟨T257, qL257, qk257, qn257⟩, -, X257, ⟨Lc257, hQ257, ql257, qy257, qz257⟩, st257⟩ := Jvm.LawKit.callS X254 hx (y := (⟨"com/example/partwright/partwright/reader/FormPartLastPathComponentPinLaw", "sep", "(C)Z"⟩ : MethodName)) hown242 (mvT hZ242 (own_w117 hw)) (mvT hZ242 (own_w118 hw)) (mvT hZ242 (own_w3 hw)) (mvT hZ242 (own_w119 hw)) (by decide) (backOf (W := 0) (rm27 l Z a0 hw [] r_11 T242.heap n0 O_242 ) hZ242 (own_w119 hw) (own_w3 hw) (by decide) (by decide)) (g := (mkF m 298 #[.val (.int i0), .val (.int i1), .val (.int i2), .val (.int i3), .val (.int i4), .val (.int i5), .val (.ref b1), .val (.int 4), .val (.ref b203), .val (.ref b230), .val (.ref r242), .val (.int kj1), .unset] [(.int r_11)])) rfl (by rw [hml]; rfl) (argsL := [(.int r_11)]) (rest := []) (lenOf pd_25 rfl) rfl (by show 2 * 0 + _ ≤ _; exact Nat.le_of_eq rfl) (hb hby at_298) (fun _ _ => ⟨rfl, eh254, (by decide : 6 + 0 ≤ _), (by decide : 26 + 0 ≤ _)⟩)
      dsimp only [Pt.U, Pt.locs, Pt.cells, Pt.slots] at X257 ql257 qy257 qz257 st257 hQ257
      rw [ql257, qy257, qz257] at X257
      obtain ⟨rfl, Nq257, eh257⟩ := hQ257
      have N257 := Fr.app N254 Nq257
      refine GoesW.step (B := T257.setTop (mkF m 301 #[.val (.int i0), .val (.int i1), .val (.int i2), .val (.int i3), .val (.int i4), .val (.int i5), .val (.ref b1), .val (.int 4), .val (.ref b203), .val (.ref b230), .val (.ref r242), .val (.int kj1), .unset] [(.int (own_sep r_11))])) st257 ?_
      have J258 : ∀ (kj2 : Int32), kj2 = own_k3 r_3 r_7 r_11 → GoesW p e below s (Q0 Z i0 i1 i2 i3 i4 i5 cs fm h0 n0) room_1.cells room_1.slots (T257.setTop (mkF m 307 #[.val (.int i0), .val (.int i1), .val (.int i2), .val (.int i3), .val (.int i4), .val (.int i5), .val (.ref b1), .val (.int 4), .val (.ref b203), .val (.ref b230), .val (.ref r242), .val (.int kj2), .unset] [])) := by
       intro kj2 hkj2
       refine GoesW.step (fun _ k => pw_iload X257.here hx (hb hby at_307) rfl _ (pw_iconst X257.here hx (v := (3 : Int32)) (hb hby at_309) rfl _ (pw_icmpNo X257.here hx (hb hby at_310) (tlt (by decide)).2.2.2 _ (pw_aload X257.here hx (hb hby at_313) rfl rfl _ (pw_iconst X257.here hx (v := (3 : Int32)) (hb hby at_315) rfl _ k))))) ?_
       obtain ⟨c259, Ar259, -, Sz259, Nn259, Hs259, -⟩ := id f249
       have hin259 : ¬ ((3 : Int32) < 0 ∨ c259.slots.size ≤ ((3 : Int32)).toNatClampNeg) := inb_of Sz259 ⟨by decide, by decide⟩
       refine GoesW.step (B := T257.setTop (mkF m 317 #[.val (.int i0), .val (.int i1), .val (.int i2), .val (.int i3), .val (.int i4), .val (.int i5), .val (.ref b1), .val (.int 4), .val (.ref b203), .val (.ref b230), .val (.ref r242), .val (.int kj2), .unset] [(.int r_15)])) (X257.caload hx (j := (3 : Int32)) (v := (.int r_15)) (by rw [eh257]; exact Ar259.1) (State.isArrayOf_alike hZ242.alike Ar259.2.1) Ar259.2.2 hin259 (Has.at Hs259 hin259 rfl) (g := (mkF m 316 #[.val (.int i0), .val (.int i1), .val (.int i2), .val (.int i3), .val (.int i4), .val (.int i5), .val (.ref b1), .val (.int 4), .val (.ref b203), .val (.ref b230), .val (.ref r242), .val (.int kj2), .unset] [(.int 3), (.ref b1)])) rfl rfl (hb hby at_316)) ?_
       obtain ⟨_, _, ⟨T260, qL260, qk260, qn260⟩, -, X260, ⟨Lc260, hQ260, ql260, qy260, qz260⟩, st260⟩ := Jvm.LawKit.callS X257 hx (y := (⟨"com/example/partwright/partwright/reader/FormPartLastPathComponentPinLaw", "sep", "(C)Z"⟩ : MethodName)) hown242 (mvT hZ242 (own_w117 hw)) (mvT hZ242 (own_w118 hw)) (mvT hZ242 (own_w3 hw)) (mvT hZ242 (own_w119 hw)) (by decide) (backOf (W := 0) (rm27 l Z a0 hw [] r_15 T242.heap n0 O_242 ) hZ242 (own_w119 hw) (own_w3 hw) (by decide) (by decide)) (g := (mkF m 317 #[.val (.int i0), .val (.int i1), .val (.int i2), .val (.int i3), .val (.int i4), .val (.int i5), .val (.ref b1), .val (.int 4), .val (.ref b203), .val (.ref b230), .val (.ref r242), .val (.int kj2), .unset] [(.int r_15)])) rfl (by rw [hml]; rfl) (argsL := [(.int r_15)]) (rest := []) (lenOf pd_25 rfl) rfl (by show 2 * 0 + _ ≤ _; exact Nat.le_of_eq rfl) (hb hby at_317) (fun _ _ => ⟨rfl, eh257, (by decide : 6 + 0 ≤ _), (by decide : 26 + 0 ≤ _)⟩)
       dsimp only [Pt.U, Pt.locs, Pt.cells, Pt.slots] at X260 ql260 qy260 qz260 st260 hQ260
       rw [ql260, qy260, qz260] at X260
       obtain ⟨rfl, Nq260, eh260⟩ := hQ260
       have N260 := Fr.app N257 Nq260
       refine GoesW.step (B := T260.setTop (mkF m 320 #[.val (.int i0), .val (.int i1), .val (.int i2), .val (.int i3), .val (.int i4), .val (.int i5), .val (.ref b1), .val (.int 4), .val (.ref b203), .val (.ref b230), .val (.ref r242), .val (.int kj2), .unset] [(.int (own_sep r_15))])) st260 ?_
       have J261 : ∀ (kj3 : Int32), kj3 = own_k4 r_3 r_7 r_11 r_15 → GoesW p e below s (Q0 Z i0 i1 i2 i3 i4 i5 cs fm h0 n0) room_1.cells room_1.slots (T260.setTop (mkF m 326 #[.val (.int i0), .val (.int i1), .val (.int i2), .val (.int i3), .val (.int i4), .val (.int i5), .val (.ref b1), .val (.int 4), .val (.ref b203), .val (.ref b230), .val (.ref r242), .val (.int kj3), .unset] [])) := by
        intro kj3 hkj3
        refine GoesW.step (fun _ k => pw_iload X260.here hx (hb hby at_326) rfl _ (pw_iconst X260.here hx (v := (4 : Int32)) (hb hby at_328) rfl _ (pw_icmpYes X260.here hx (pc' := 345) (hb hby at_329) (flt (by decide)).2.2.2 (by decide) (by decide) _ k))) ?_
        have hke : kj3 = own_k4 r_3 r_7 r_11 r_15 := hkj3
        have heq : own_max (own_lix (47 : Int32) [(own_b r_3), (own_b r_7), (own_b r_11), (own_b r_15)]) (own_lix (92 : Int32) [(own_b r_3), (own_b r_7), (own_b r_11), (own_b r_15)]) = own_k4 r_3 r_7 r_11 r_15 := own_eq4 hok_3 hok_7 hok_11 hok_15
        have hkb : -1 ≤ (kj3 : Int32).toInt ∧ (kj3 : Int32).toInt < 4 := by rw [hke, ← heq]; exact own_mb4 (own_b r_3) (own_b r_7) (own_b r_11) (own_b r_15) 47 92
        have hbk : bb242 = kj3 + 1 := by rw [hbb242, heq, hke]
        have hme := own_m4 hkb hbk hmm242
        refine GoesW.step (fun _ k => pw_iload X260.here hx (hb hby at_345) rfl _ (pw_iload X260.here hx (hb hby at_347) rfl _ (pw_isub X260.here hx (hb hby at_349) _ (pw_iconst X260.here hx (v := (1 : Int32)) (hb hby at_350) rfl _ (pw_isub X260.here hx (hb hby at_351) _ (pw_istore X260.here hx (l' := #[.val (.int i0), .val (.int i1), .val (.int i2), .val (.int i3), .val (.int i4), .val (.int i5), .val (.ref b1), .val (.int 4), .val (.ref b203), .val (.ref b230), .val (.ref r242), .val (.int kj3), .val (.int (((4 : Int32) - kj3) - (1 : Int32)))]) (hb hby at_352) rfl _ k)))))) ?_
        refine GoesW.step (fun _ k => pw_aload X260.here hx (hb hby at_354) rfl rfl _ k) ?_
        have f263 := S_COMPACT_STRINGS.ext O_242.2
        obtain ⟨cq262, kq262, qa262, qb262, qc262⟩ := isOf hZ242 eh260 Er242
        obtain ⟨_, _, ⟨T262, qL262, qk262, qn262⟩, -, X262, ⟨Lc262, hQ262, ql262, qy262, qz262⟩, st262⟩ := X260.virtualBack hx (y := (⟨"java/lang/String", "length", "()I"⟩ : MethodName)) (z := (⟨"java/lang/String", "length", "()I"⟩ : MethodName)) hown242 (mvT hZ242 (own_w120 hw)) (mvT hZ242 (own_w44 hw)) (notFace_of_selects (args := #[]) (mvT hZ242 (own_w46 hw))) (mvT hZ242 (own_w46 hw)) (mvT hZ242 (own_w45 hw)) (by decide) (backOf (W := 0) (rm10 l Z a0 hw [] r242 vb242 kv242 mm242 (own_sub [(own_b r_3), (own_b r_7), (own_b r_11), (own_b r_15)] bb242 mm242) cs T242.heap n0 O_242 f263 hcs Er242 Fc242 Fv242 Vr242) hZ242 (own_w47 hw) (own_w7 hw) (by decide) (by decide)) qa262 qc262 (g := (mkF m 356 #[.val (.int i0), .val (.int i1), .val (.int i2), .val (.int i3), .val (.int i4), .val (.int i5), .val (.ref b1), .val (.int 4), .val (.ref b203), .val (.ref b230), .val (.ref r242), .val (.int kj3), .val (.int (((4 : Int32) - kj3) - (1 : Int32)))] [(.ref r242)])) rfl (by rw [hml]; rfl) (Steps.refl _) (argsL := []) (rest := []) (lenOf pd_13 rfl) rfl (by show 2 * 0 + _ ≤ _; exact Nat.le_of_eq rfl) (hb hby at_356) (fun _ _ => ⟨rfl, eh260, (by decide : 6 + 0 ≤ _), (by decide : 26 + 0 ≤ _)⟩)
        dsimp only [Pt.U, Pt.locs, Pt.cells, Pt.slots] at X262 ql262 qy262 qz262 st262 hQ262
        rw [ql262, qy262, qz262] at X262
        obtain ⟨rfl, Nq262, eh262⟩ := hQ262
        have N262 := Fr.app N260 Nq262
        refine GoesW.via (B := T262.setTop (mkF m 359 #[.val (.int i0), .val (.int i1), .val (.int i2), .val (.int i3), .val (.int i4), .val (.int i5), .val (.ref b1), .val (.int 4), .val (.ref b203), .val (.ref b230), .val (.ref r242), .val (.int kj3), .val (.int (((4 : Int32) - kj3) - (1 : Int32)))] [(.int mm242)])) st262 ?_
        refine GoesW.step (fun _ k => pw_iload X262.here hx (hb hby at_359) rfl _ (pw_icmpYes X262.here hx (pc' := 366) (hb hby at_361) (teq (by rw [hme])).1 (by decide) (by decide) _ (pw_aload X262.here hx (hb hby at_366) rfl rfl _ (pw_iconst X262.here hx (v := (0 : Int32)) (hb hby at_368) rfl _ (pw_iload X262.here hx (hb hby at_369) rfl _ (pw_aload X262.here hx (hb hby at_371) rfl rfl _ k)))))) ?_
        refine GoesW.step (fun _ k => pw_iload X262.here hx (hb hby at_373) rfl _ (pw_iconst X262.here hx (v := (1 : Int32)) (hb hby at_375) rfl _ (pw_iadd X262.here hx (hb hby at_376) _ k))) ?_
        obtain ⟨_, _, ⟨T264, qL264, qk264, qn264⟩, -, X264, ⟨Lc264, hQ264, ql264, qy264, qz264⟩, st264⟩ := Jvm.LawKit.callS X262 hx (y := (⟨"com/example/partwright/partwright/reader/FormPartLastPathComponentPinLaw", "at", "(Ljava/lang/String;II[CI)Z"⟩ : MethodName)) hown242 (mvT hZ242 (own_w121 hw)) (mvT hZ242 (own_w122 hw)) (mvT hZ242 (own_w3 hw)) (mvT hZ242 (own_w123 hw)) (by decide) (backOf (W := 0) (rmAt l Z a0 hw [] r242 vb242 kv242 mm242 (own_sub [(own_b r_3), (own_b r_7), (own_b r_11), (own_b r_15)] bb242 mm242) b1 k1 r_3 r_7 r_11 r_15 r_19 (0 : Int32) (((4 : Int32) - kj3) - (1 : Int32)) (kj3 + (1 : Int32)) cs fm T242.heap n0 O_242 FS Er242 Fc242 Fv242 Vr242 f249 (own_hat4 hok_3 hok_7 hok_11 hok_15 hkb hbk hmm242 (by decide) (by decide))) hZ242 (own_w123 hw) (own_w3 hw) (by decide) (by decide)) (g := (mkF m 377 #[.val (.int i0), .val (.int i1), .val (.int i2), .val (.int i3), .val (.int i4), .val (.int i5), .val (.ref b1), .val (.int 4), .val (.ref b203), .val (.ref b230), .val (.ref r242), .val (.int kj3), .val (.int (((4 : Int32) - kj3) - (1 : Int32)))] [(.int (kj3 + (1 : Int32))), (.ref b1), (.int (((4 : Int32) - kj3) - (1 : Int32))), (.int 0), (.ref r242)])) rfl (by rw [hml]; rfl) (argsL := [(.ref r242), (.int 0), (.int (((4 : Int32) - kj3) - (1 : Int32))), (.ref b1), (.int (kj3 + (1 : Int32)))]) (rest := []) (lenOf pd_24 rfl) rfl (by show 2 * 0 + _ ≤ _; exact Nat.le_of_eq rfl) (hb hby at_377) (fun _ _ => ⟨rfl, eh262, (by decide : 6 + 0 ≤ _), (by decide : 26 + 0 ≤ _)⟩)
        dsimp only [Pt.U, Pt.locs, Pt.cells, Pt.slots] at X264 ql264 qy264 qz264 st264 hQ264
        rw [ql264, qy264, qz264] at X264
        obtain ⟨rfl, Nq264, eh264⟩ := hQ264
        have N264 := Fr.app N262 Nq264
        refine GoesW.step (B := T264.setTop (mkF m 380 #[.val (.int i0), .val (.int i1), .val (.int i2), .val (.int i3), .val (.int i4), .val (.int i5), .val (.ref b1), .val (.int 4), .val (.ref b203), .val (.ref b230), .val (.ref r242), .val (.int kj3), .val (.int (((4 : Int32) - kj3) - (1 : Int32)))] [(.int 1)])) st264 ?_
        refine GoesW.step (fun _ k => pw_ifNo X264.here hx (hb hby at_380) ((if0 _ _).trans (feq (by decide)).1) _ (pw_aload X264.here hx (hb hby at_383) rfl rfl _ (pw_iconst X264.here hx (v := (1 : Int32)) (hb hby at_385) rfl _ (pw_iload X264.here hx (hb hby at_386) rfl _ (pw_aload X264.here hx (hb hby at_388) rfl rfl _ (pw_iload X264.here hx (hb hby at_390) rfl _ k)))))) ?_
        refine GoesW.step (fun _ k => pw_iconst X264.here hx (v := (1 : Int32)) (hb hby at_392) rfl _ (pw_iadd X264.here hx (hb hby at_393) _ k)) ?_
        obtain ⟨_, _, ⟨T265, qL265, qk265, qn265⟩, -, X265, ⟨Lc265, hQ265, ql265, qy265, qz265⟩, st265⟩ := Jvm.LawKit.callS X264 hx (y := (⟨"com/example/partwright/partwright/reader/FormPartLastPathComponentPinLaw", "at", "(Ljava/lang/String;II[CI)Z"⟩ : MethodName)) hown242 (mvT hZ242 (own_w121 hw)) (mvT hZ242 (own_w122 hw)) (mvT hZ242 (own_w3 hw)) (mvT hZ242 (own_w123 hw)) (by decide) (backOf (W := 0) (rmAt l Z a0 hw [] r242 vb242 kv242 mm242 (own_sub [(own_b r_3), (own_b r_7), (own_b r_11), (own_b r_15)] bb242 mm242) b1 k1 r_3 r_7 r_11 r_15 r_19 (1 : Int32) (((4 : Int32) - kj3) - (1 : Int32)) (kj3 + (1 : Int32)) cs fm T242.heap n0 O_242 FS Er242 Fc242 Fv242 Vr242 f249 (own_hat4 hok_3 hok_7 hok_11 hok_15 hkb hbk hmm242 (by decide) (by decide))) hZ242 (own_w123 hw) (own_w3 hw) (by decide) (by decide)) (g := (mkF m 394 #[.val (.int i0), .val (.int i1), .val (.int i2), .val (.int i3), .val (.int i4), .val (.int i5), .val (.ref b1), .val (.int 4), .val (.ref b203), .val (.ref b230), .val (.ref r242), .val (.int kj3), .val (.int (((4 : Int32) - kj3) - (1 : Int32)))] [(.int (kj3 + (1 : Int32))), (.ref b1), (.int (((4 : Int32) - kj3) - (1 : Int32))), (.int 1), (.ref r242)])) rfl (by rw [hml]; rfl) (argsL := [(.ref r242), (.int 1), (.int (((4 : Int32) - kj3) - (1 : Int32))), (.ref b1), (.int (kj3 + (1 : Int32)))]) (rest := []) (lenOf pd_24 rfl) rfl (by show 2 * 0 + _ ≤ _; exact Nat.le_of_eq rfl) (hb hby at_394) (fun _ _ => ⟨rfl, eh264, (by decide : 6 + 0 ≤ _), (by decide : 26 + 0 ≤ _)⟩)
        dsimp only [Pt.U, Pt.locs, Pt.cells, Pt.slots] at X265 ql265 qy265 qz265 st265 hQ265
        rw [ql265, qy265, qz265] at X265
        obtain ⟨rfl, Nq265, eh265⟩ := hQ265
        have N265 := Fr.app N264 Nq265
        refine GoesW.step (B := T265.setTop (mkF m 397 #[.val (.int i0), .val (.int i1), .val (.int i2), .val (.int i3), .val (.int i4), .val (.int i5), .val (.ref b1), .val (.int 4), .val (.ref b203), .val (.ref b230), .val (.ref r242), .val (.int kj3), .val (.int (((4 : Int32) - kj3) - (1 : Int32)))] [(.int 1)])) st265 ?_
        refine GoesW.step (fun _ k => pw_ifNo X265.here hx (hb hby at_397) ((if0 _ _).trans (feq (by decide)).1) _ (pw_aload X265.here hx (hb hby at_400) rfl rfl _ (pw_iconst X265.here hx (v := (2 : Int32)) (hb hby at_402) rfl _ (pw_iload X265.here hx (hb hby at_403) rfl _ (pw_aload X265.here hx (hb hby at_405) rfl rfl _ (pw_iload X265.here hx (hb hby at_407) rfl _ k)))))) ?_
        refine GoesW.step (fun _ k => pw_iconst X265.here hx (v := (1 : Int32)) (hb hby at_409) rfl _ (pw_iadd X265.here hx (hb hby at_410) _ k)) ?_
        obtain ⟨_, _, ⟨T266, qL266, qk266, qn266⟩, -, X266, ⟨Lc266, hQ266, ql266, qy266, qz266⟩, st266⟩ := Jvm.LawKit.callS X265 hx (y := (⟨"com/example/partwright/partwright/reader/FormPartLastPathComponentPinLaw", "at", "(Ljava/lang/String;II[CI)Z"⟩ : MethodName)) hown242 (mvT hZ242 (own_w121 hw)) (mvT hZ242 (own_w122 hw)) (mvT hZ242 (own_w3 hw)) (mvT hZ242 (own_w123 hw)) (by decide) (backOf (W := 0) (rmAt l Z a0 hw [] r242 vb242 kv242 mm242 (own_sub [(own_b r_3), (own_b r_7), (own_b r_11), (own_b r_15)] bb242 mm242) b1 k1 r_3 r_7 r_11 r_15 r_19 (2 : Int32) (((4 : Int32) - kj3) - (1 : Int32)) (kj3 + (1 : Int32)) cs fm T242.heap n0 O_242 FS Er242 Fc242 Fv242 Vr242 f249 (own_hat4 hok_3 hok_7 hok_11 hok_15 hkb hbk hmm242 (by decide) (by decide))) hZ242 (own_w123 hw) (own_w3 hw) (by decide) (by decide)) (g := (mkF m 411 #[.val (.int i0), .val (.int i1), .val (.int i2), .val (.int i3), .val (.int i4), .val (.int i5), .val (.ref b1), .val (.int 4), .val (.ref b203), .val (.ref b230), .val (.ref r242), .val (.int kj3), .val (.int (((4 : Int32) - kj3) - (1 : Int32)))] [(.int (kj3 + (1 : Int32))), (.ref b1), (.int (((4 : Int32) - kj3) - (1 : Int32))), (.int 2), (.ref r242)])) rfl (by rw [hml]; rfl) (argsL := [(.ref r242), (.int 2), (.int (((4 : Int32) - kj3) - (1 : Int32))), (.ref b1), (.int (kj3 + (1 : Int32)))]) (rest := []) (lenOf pd_24 rfl) rfl (by show 2 * 0 + _ ≤ _; exact Nat.le_of_eq rfl) (hb hby at_411) (fun _ _ => ⟨rfl, eh265, (by decide : 6 + 0 ≤ _), (by decide : 26 + 0 ≤ _)⟩)
        dsimp only [Pt.U, Pt.locs, Pt.cells, Pt.slots] at X266 ql266 qy266 qz266 st266 hQ266
        rw [ql266, qy266, qz266] at X266
        obtain ⟨rfl, Nq266, eh266⟩ := hQ266
        have N266 := Fr.app N265 Nq266
        refine GoesW.step (B := T266.setTop (mkF m 414 #[.val (.int i0), .val (.int i1), .val (.int i2), .val (.int i3), .val (.int i4), .val (.int i5), .val (.ref b1), .val (.int 4), .val (.ref b203), .val (.ref b230), .val (.ref r242), .val (.int kj3), .val (.int (((4 : Int32) - kj3) - (1 : Int32)))] [(.int 1)])) st266 ?_
        refine GoesW.step (fun _ k => pw_ifNo X266.here hx (hb hby at_414) ((if0 _ _).trans (feq (by decide)).1) _ (pw_aload X266.here hx (hb hby at_417) rfl rfl _ (pw_iconst X266.here hx (v := (3 : Int32)) (hb hby at_419) rfl _ (pw_iload X266.here hx (hb hby at_420) rfl _ (pw_aload X266.here hx (hb hby at_422) rfl rfl _ (pw_iload X266.here hx (hb hby at_424) rfl _ k)))))) ?_
        refine GoesW.step (fun _ k => pw_iconst X266.here hx (v := (1 : Int32)) (hb hby at_426) rfl _ (pw_iadd X266.here hx (hb hby at_427) _ k)) ?_
        obtain ⟨_, _, ⟨T267, qL267, qk267, qn267⟩, -, X267, ⟨Lc267, hQ267, ql267, qy267, qz267⟩, st267⟩ := Jvm.LawKit.callS X266 hx (y := (⟨"com/example/partwright/partwright/reader/FormPartLastPathComponentPinLaw", "at", "(Ljava/lang/String;II[CI)Z"⟩ : MethodName)) hown242 (mvT hZ242 (own_w121 hw)) (mvT hZ242 (own_w122 hw)) (mvT hZ242 (own_w3 hw)) (mvT hZ242 (own_w123 hw)) (by decide) (backOf (W := 0) (rmAt l Z a0 hw [] r242 vb242 kv242 mm242 (own_sub [(own_b r_3), (own_b r_7), (own_b r_11), (own_b r_15)] bb242 mm242) b1 k1 r_3 r_7 r_11 r_15 r_19 (3 : Int32) (((4 : Int32) - kj3) - (1 : Int32)) (kj3 + (1 : Int32)) cs fm T242.heap n0 O_242 FS Er242 Fc242 Fv242 Vr242 f249 (own_hat4 hok_3 hok_7 hok_11 hok_15 hkb hbk hmm242 (by decide) (by decide))) hZ242 (own_w123 hw) (own_w3 hw) (by decide) (by decide)) (g := (mkF m 428 #[.val (.int i0), .val (.int i1), .val (.int i2), .val (.int i3), .val (.int i4), .val (.int i5), .val (.ref b1), .val (.int 4), .val (.ref b203), .val (.ref b230), .val (.ref r242), .val (.int kj3), .val (.int (((4 : Int32) - kj3) - (1 : Int32)))] [(.int (kj3 + (1 : Int32))), (.ref b1), (.int (((4 : Int32) - kj3) - (1 : Int32))), (.int 3), (.ref r242)])) rfl (by rw [hml]; rfl) (argsL := [(.ref r242), (.int 3), (.int (((4 : Int32) - kj3) - (1 : Int32))), (.ref b1), (.int (kj3 + (1 : Int32)))]) (rest := []) (lenOf pd_24 rfl) rfl (by show 2 * 0 + _ ≤ _; exact Nat.le_of_eq rfl) (hb hby at_428) (fun _ _ => ⟨rfl, eh266, (by decide : 6 + 0 ≤ _), (by decide : 26 + 0 ≤ _)⟩)
        dsimp only [Pt.U, Pt.locs, Pt.cells, Pt.slots] at X267 ql267 qy267 qz267 st267 hQ267
        rw [ql267, qy267, qz267] at X267
        obtain ⟨rfl, Nq267, eh267⟩ := hQ267
        have N267 := Fr.app N266 Nq267
        refine GoesW.step (B := T267.setTop (mkF m 431 #[.val (.int i0), .val (.int i1), .val (.int i2), .val (.int i3), .val (.int i4), .val (.int i5), .val (.ref b1), .val (.int 4), .val (.ref b203), .val (.ref b230), .val (.ref r242), .val (.int kj3), .val (.int (((4 : Int32) - kj3) - (1 : Int32)))] [(.int 1)])) st267 ?_
        refine GoesW.step (fun _ k => pw_ifNo X267.here hx (hb hby at_431) ((if0 _ _).trans (feq (by decide)).1) _ (pw_aload X267.here hx (hb hby at_434) rfl rfl _ (pw_iconst X267.here hx (v := (4 : Int32)) (hb hby at_436) rfl _ (pw_iload X267.here hx (hb hby at_437) rfl _ (pw_aload X267.here hx (hb hby at_439) rfl rfl _ (pw_iload X267.here hx (hb hby at_441) rfl _ k)))))) ?_
        refine GoesW.step (fun _ k => pw_iconst X267.here hx (v := (1 : Int32)) (hb hby at_443) rfl _ (pw_iadd X267.here hx (hb hby at_444) _ k)) ?_
        obtain ⟨_, _, ⟨T268, qL268, qk268, qn268⟩, -, X268, ⟨Lc268, hQ268, ql268, qy268, qz268⟩, st268⟩ := Jvm.LawKit.callS X267 hx (y := (⟨"com/example/partwright/partwright/reader/FormPartLastPathComponentPinLaw", "at", "(Ljava/lang/String;II[CI)Z"⟩ : MethodName)) hown242 (mvT hZ242 (own_w121 hw)) (mvT hZ242 (own_w122 hw)) (mvT hZ242 (own_w3 hw)) (mvT hZ242 (own_w123 hw)) (by decide) (backOf (W := 0) (rmAt l Z a0 hw [] r242 vb242 kv242 mm242 (own_sub [(own_b r_3), (own_b r_7), (own_b r_11), (own_b r_15)] bb242 mm242) b1 k1 r_3 r_7 r_11 r_15 r_19 (4 : Int32) (((4 : Int32) - kj3) - (1 : Int32)) (kj3 + (1 : Int32)) cs fm T242.heap n0 O_242 FS Er242 Fc242 Fv242 Vr242 f249 (own_hat4 hok_3 hok_7 hok_11 hok_15 hkb hbk hmm242 (by decide) (by decide))) hZ242 (own_w123 hw) (own_w3 hw) (by decide) (by decide)) (g := (mkF m 445 #[.val (.int i0), .val (.int i1), .val (.int i2), .val (.int i3), .val (.int i4), .val (.int i5), .val (.ref b1), .val (.int 4), .val (.ref b203), .val (.ref b230), .val (.ref r242), .val (.int kj3), .val (.int (((4 : Int32) - kj3) - (1 : Int32)))] [(.int (kj3 + (1 : Int32))), (.ref b1), (.int (((4 : Int32) - kj3) - (1 : Int32))), (.int 4), (.ref r242)])) rfl (by rw [hml]; rfl) (argsL := [(.ref r242), (.int 4), (.int (((4 : Int32) - kj3) - (1 : Int32))), (.ref b1), (.int (kj3 + (1 : Int32)))]) (rest := []) (lenOf pd_24 rfl) rfl (by show 2 * 0 + _ ≤ _; exact Nat.le_of_eq rfl) (hb hby at_445) (fun _ _ => ⟨rfl, eh267, (by decide : 6 + 0 ≤ _), (by decide : 26 + 0 ≤ _)⟩)
        dsimp only [Pt.U, Pt.locs, Pt.cells, Pt.slots] at X268 ql268 qy268 qz268 st268 hQ268
        rw [ql268, qy268, qz268] at X268
        obtain ⟨rfl, Nq268, eh268⟩ := hQ268
        have N268 := Fr.app N267 Nq268
        refine GoesW.step (B := T268.setTop (mkF m 448 #[.val (.int i0), .val (.int i1), .val (.int i2), .val (.int i3), .val (.int i4), .val (.int i5), .val (.ref b1), .val (.int 4), .val (.ref b203), .val (.ref b230), .val (.ref r242), .val (.int kj3), .val (.int (((4 : Int32) - kj3) - (1 : Int32)))] [(.int 1)])) st268 ?_
        refine GoesW.step (fun _ k => pw_ifNo X268.here hx (hb hby at_448) ((if0 _ _).trans (feq (by decide)).1) _ (pw_iconst X268.here hx (v := (1 : Int32)) (hb hby at_451) rfl _ (pw_goto X268.here hx (pc' := 456) (hb hby at_452) (by decide) (by decide) _ k))) ?_
        exact GoesW.retN X268 hS242 (Nat.le_refl _) hx eh268 (t := .boolean) Bd.returns (by simp) hlk (hb hby at_456) (by decide) (by decide) (⟨rfl, N268⟩)
       by_cases hc320_268 : (own_sep r_15) = (0 : Int32)
       · refine GoesW.step (fun _ k => pw_ifYes X260.here hx (pc' := 326) (hb hby at_320) ((if0 _ _).trans (teq hc320_268).1) (by decide) (by decide) _ k) ?_
         exact J261 kj2 (by rw [own_k4, if_pos hc320_268]; exact hkj2)
       · refine GoesW.step (fun _ k => pw_ifNo X260.here hx (hb hby at_320) ((if0 _ _).trans (feq hc320_268).1) _ (pw_iconst X260.here hx (v := (3 : Int32)) (hb hby at_323) rfl _ (pw_istore X260.here hx (l' := #[.val (.int i0), .val (.int i1), .val (.int i2), .val (.int i3), .val (.int i4), .val (.int i5), .val (.ref b1), .val (.int 4), .val (.ref b203), .val (.ref b230), .val (.ref r242), .val (.int 3), .unset]) (hb hby at_324) rfl _ k))) ?_
         exact J261 (3 : Int32) (by rw [own_k4, if_neg hc320_268])
      by_cases hc301_269 : (own_sep r_11) = (0 : Int32)
      · refine GoesW.step (fun _ k => pw_ifYes X257.here hx (pc' := 307) (hb hby at_301) ((if0 _ _).trans (teq hc301_269).1) (by decide) (by decide) _ k) ?_
        exact J258 kj1 (by rw [own_k3, if_pos hc301_269]; exact hkj1)
      · refine GoesW.step (fun _ k => pw_ifNo X257.here hx (hb hby at_301) ((if0 _ _).trans (feq hc301_269).1) _ (pw_iconst X257.here hx (v := (2 : Int32)) (hb hby at_304) rfl _ (pw_istore X257.here hx (l' := #[.val (.int i0), .val (.int i1), .val (.int i2), .val (.int i3), .val (.int i4), .val (.int i5), .val (.ref b1), .val (.int 4), .val (.ref b203), .val (.ref b230), .val (.ref r242), .val (.int 2), .unset]) (hb hby at_305) rfl _ k))) ?_
        exact J258 (2 : Int32) (by rw [own_k3, if_neg hc301_269])
     by_cases hc282_270 : (own_sep r_7) = (0 : Int32)
     · refine GoesW.step (fun _ k => pw_ifYes X254.here hx (pc' := 288) (hb hby at_282) ((if0 _ _).trans (teq hc282_270).1) (by decide) (by decide) _ k) ?_
       exact J255 kj0 (by rw [own_k2, if_pos hc282_270]; exact hkj0)
     · refine GoesW.step (fun _ k => pw_ifNo X254.here hx (hb hby at_282) ((if0 _ _).trans (feq hc282_270).1) _ (pw_iconst X254.here hx (v := (1 : Int32)) (hb hby at_285) rfl _ (pw_istore X254.here hx (l' := #[.val (.int i0), .val (.int i1), .val (.int i2), .val (.int i3), .val (.int i4), .val (.int i5), .val (.ref b1), .val (.int 4), .val (.ref b203), .val (.ref b230), .val (.ref r242), .val (.int 1), .unset]) (hb hby at_286) rfl _ k))) ?_
       exact J255 (1 : Int32) (by rw [own_k2, if_neg hc282_270])
    by_cases hc263_271 : (own_sep r_3) = (0 : Int32)
    · refine GoesW.step (fun _ k => pw_ifYes X251.here hx (pc' := 269) (hb hby at_263) ((if0 _ _).trans (teq hc263_271).1) (by decide) (by decide) _ k) ?_
      exact J252 (-1 : Int32) (by rw [own_k1, if_pos hc263_271]; exact rfl)
    · refine GoesW.step (fun _ k => pw_ifNo X251.here hx (hb hby at_263) ((if0 _ _).trans (feq hc263_271).1) _ (pw_iconst X251.here hx (v := (0 : Int32)) (hb hby at_266) rfl _ (pw_istore X251.here hx (l' := #[.val (.int i0), .val (.int i1), .val (.int i2), .val (.int i3), .val (.int i4), .val (.int i5), .val (.ref b1), .val (.int 4), .val (.ref b203), .val (.ref b230), .val (.ref r242), .val (.int 0), .unset]) (hb hby at_267) rfl _ k))) ?_
      exact J252 (0 : Int32) (by rw [own_k1, if_neg hc263_271])
  · refine GoesW.step (fun _ k => pw_istore X20.here hx (l' := #[.val (.int i0), .val (.int i1), .val (.int i2), .val (.int i3), .val (.int i4), .val (.int i5), .val (.ref b1), .val (.int 5), .unset, .unset, .unset, .unset, .unset]) (hb hby at_49) rfl _ (pw_iload X20.here hx (hb hby at_51) rfl _ (pw_ifYes X20.here hx (pc' := 64) (hb hby at_53) ((if0 _ _).trans (feq (by decide)).2) (by decide) (by decide) _ (pw_iload X20.here hx (hb hby at_64) rfl _ (pw_iconst X20.here hx (v := (1 : Int32)) (hb hby at_66) rfl _ (pw_icmpYes X20.here hx (pc' := 85) (hb hby at_67) (feq (by decide)).2 (by decide) (by decide) _ k)))))) ?_
    refine GoesW.step (fun _ k => pw_iload X20.here hx (hb hby at_85) rfl _ (pw_iconst X20.here hx (v := (2 : Int32)) (hb hby at_87) rfl _ (pw_icmpYes X20.here hx (pc' := 113) (hb hby at_88) (feq (by decide)).2 (by decide) (by decide) _ (pw_iload X20.here hx (hb hby at_113) rfl _ (pw_iconst X20.here hx (v := (3 : Int32)) (hb hby at_115) rfl _ (pw_icmpYes X20.here hx (pc' := 148) (hb hby at_116) (feq (by decide)).2 (by decide) (by decide) _ k)))))) ?_
    refine GoesW.step (fun _ k => pw_iload X20.here hx (hb hby at_148) rfl _ (pw_iconst X20.here hx (v := (4 : Int32)) (hb hby at_150) rfl _ (pw_icmpYes X20.here hx (pc' := 190) (hb hby at_151) (feq (by decide)).2 (by decide) (by decide) _ (pw_iconst X20.here hx (v := (5 : Int32)) (hb hby at_190) rfl _ k)))) ?_
    obtain ⟨T273, h273, k273, X273, e273, E273, A273, st273⟩ := newP (aty := .char) X20 hx hZ (own_w0 hw) e20 (g := (mkF m 191 #[.val (.int i0), .val (.int i1), .val (.int i2), .val (.int i3), .val (.int i4), .val (.int i5), .val (.ref b1), .val (.int 5), .unset, .unset, .unset, .unset, .unset] [(.int 5)])) rfl (hb hby at_191) rfl (by decide) (cap := 5) (by decide) (by decide) (by decide) (by decide)
    obtain ⟨b273, g273⟩ : ∃ z, z = h20.size := ⟨_, rfl⟩
    rw [← g273] at A273 st273
    have ne_b1_b273 : b1 ≠ b273 := Nat.ne_of_lt (Nat.lt_of_lt_of_le Vn20.lt (Nat.le_of_eq g273.symm))
    have g_b273 : n0 ≤ b273 := Nat.le_trans (own_z O_20) (Nat.le_of_eq g273.symm)
    have Sf_b273 := Safe.ext E273 CH22.1 (Safe.new (Nat.le_of_eq g273.symm))
    have Sf274 := Safe.ext E273 CH22.1 Sf21
    have CH275 := CH22.trans (CHr.ext E273 CH22.1)
    have O_273 := O_20.ext E273
    have V_b273 : Arv Z h273 b273 k273 .char (5 : Int32) [(.int 0), (.int 0), (.int 0), (.int 0), (.int 0)] (.int 0) := (Arv.new A273 (by decide)).pad (pad_rep [] (.int 0) 5)
    refine GoesW.step (B := T273.setTop (mkF m 193 #[.val (.int i0), .val (.int i1), .val (.int i2), .val (.int i3), .val (.int i4), .val (.int i5), .val (.ref b1), .val (.int 5), .unset, .unset, .unset, .unset, .unset] [(.ref b273)])) st273 ?_
    refine GoesW.step (fun _ k => pw_dup X273.here hx (hb hby at_193) rfl _ (pw_iconst X273.here hx (v := (0 : Int32)) (hb hby at_194) rfl _ (pw_aload X273.here hx (hb hby at_195) rfl rfl _ (pw_iconst X273.here hx (v := (0 : Int32)) (hb hby at_197) rfl _ k)))) ?_
    have f276 := (Vn20.ext E273)
    obtain ⟨c277, Ar277, -, Sz277, Nn277, Hs277, -⟩ := id f276
    have hin277 : ¬ ((0 : Int32) < 0 ∨ c277.slots.size ≤ ((0 : Int32)).toNatClampNeg) := inb_of Sz277 ⟨by decide, by decide⟩
    refine GoesW.step (B := T273.setTop (mkF m 199 #[.val (.int i0), .val (.int i1), .val (.int i2), .val (.int i3), .val (.int i4), .val (.int i5), .val (.ref b1), .val (.int 5), .unset, .unset, .unset, .unset, .unset] [(.int r_3), (.int 0), (.ref b273), (.ref b273)])) (X273.caload hx (j := (0 : Int32)) (v := (.int r_3)) (by rw [e273]; exact Ar277.1) (State.isArrayOf_alike hZ.alike Ar277.2.1) Ar277.2.2 hin277 (Has.at Hs277 hin277 rfl) (g := (mkF m 198 #[.val (.int i0), .val (.int i1), .val (.int i2), .val (.int i3), .val (.int i4), .val (.int i5), .val (.ref b1), .val (.int 5), .unset, .unset, .unset, .unset, .unset] [(.int 0), (.ref b1), (.int 0), (.ref b273), (.ref b273)])) rfl rfl (hb hby at_198)) ?_
    obtain ⟨c278, Ar278, q278, Sz278, Nn278, Hs278, Gs278⟩ := id V_b273
    have hin278 : ¬ ((0 : Int32) < 0 ∨ c278.slots.size ≤ ((0 : Int32)).toNatClampNeg) := inb_of Sz278 ⟨by decide, by decide⟩
    obtain ⟨T278, h278, X278, e278, W278, st278⟩ := stC X273 hx hZ e273 Ar278 (j := (0 : Int32)) hin278 (g := (mkF m 199 #[.val (.int i0), .val (.int i1), .val (.int i2), .val (.int i3), .val (.int i4), .val (.int i5), .val (.ref b1), .val (.int 5), .unset, .unset, .unset, .unset, .unset] [(.int r_3), (.int 0), (.ref b273), (.ref b273)])) rfl rfl (hb hby at_199)
    have Sf279 := Safe.wr W278 Sf_b273 CH275.1 Sf274
    have Sf280 := Safe.wr W278 Sf_b273 CH275.1 Sf_b273
    have CH281 := CH275.trans (CHr.wr W278 Sf_b273 CH275.1)
    have V278 : Arv Z h278 b273 k273 .char (5 : Int32) [(.int (nar .char r_3)), (.int 0), (.int 0), (.int 0), (.int 0)] (.int 0) := Arv.set Ar278 q278 Sz278 Nn278 Hs278 Gs278 (fits_nar_char _) W278 0 rfl (Nat.le_of_ble_eq_true rfl)
    have Vn278 : Arv Z h278 b273 k273 .char (5 : Int32) [(.int r_3), (.int 0), (.int 0), (.int 0), (.int 0)] (.int 0) := by have q := V278; rw [own_nr hok_3] at q; exact q
    have N278 := Fr.snoc X278 N20 g_b273
    have O_278 := O_273.wr W278 g_b273
    refine GoesW.step (B := T278.setTop (mkF m 200 #[.val (.int i0), .val (.int i1), .val (.int i2), .val (.int i3), .val (.int i4), .val (.int i5), .val (.ref b1), .val (.int 5), .unset, .unset, .unset, .unset, .unset] [(.ref b273)])) st278 ?_
    refine GoesW.step (fun _ k => pw_dup X278.here hx (hb hby at_200) rfl _ (pw_iconst X278.here hx (v := (1 : Int32)) (hb hby at_201) rfl _ (pw_aload X278.here hx (hb hby at_202) rfl rfl _ (pw_iconst X278.here hx (v := (1 : Int32)) (hb hby at_204) rfl _ k)))) ?_
    have f282 := (f276.other W278 ne_b1_b273)
    obtain ⟨c283, Ar283, -, Sz283, Nn283, Hs283, -⟩ := id f282
    have hin283 : ¬ ((1 : Int32) < 0 ∨ c283.slots.size ≤ ((1 : Int32)).toNatClampNeg) := inb_of Sz283 ⟨by decide, by decide⟩
    refine GoesW.step (B := T278.setTop (mkF m 206 #[.val (.int i0), .val (.int i1), .val (.int i2), .val (.int i3), .val (.int i4), .val (.int i5), .val (.ref b1), .val (.int 5), .unset, .unset, .unset, .unset, .unset] [(.int r_7), (.int 1), (.ref b273), (.ref b273)])) (X278.caload hx (j := (1 : Int32)) (v := (.int r_7)) (by rw [e278]; exact Ar283.1) (State.isArrayOf_alike hZ.alike Ar283.2.1) Ar283.2.2 hin283 (Has.at Hs283 hin283 rfl) (g := (mkF m 205 #[.val (.int i0), .val (.int i1), .val (.int i2), .val (.int i3), .val (.int i4), .val (.int i5), .val (.ref b1), .val (.int 5), .unset, .unset, .unset, .unset, .unset] [(.int 1), (.ref b1), (.int 1), (.ref b273), (.ref b273)])) rfl rfl (hb hby at_205)) ?_
    obtain ⟨c284, Ar284, q284, Sz284, Nn284, Hs284, Gs284⟩ := id Vn278
    have hin284 : ¬ ((1 : Int32) < 0 ∨ c284.slots.size ≤ ((1 : Int32)).toNatClampNeg) := inb_of Sz284 ⟨by decide, by decide⟩
    obtain ⟨T284, h284, X284, e284, W284, st284⟩ := stC X278 hx hZ e278 Ar284 (j := (1 : Int32)) hin284 (g := (mkF m 206 #[.val (.int i0), .val (.int i1), .val (.int i2), .val (.int i3), .val (.int i4), .val (.int i5), .val (.ref b1), .val (.int 5), .unset, .unset, .unset, .unset, .unset] [(.int r_7), (.int 1), (.ref b273), (.ref b273)])) rfl rfl (hb hby at_206)
    have Sf285 := Safe.wr W284 Sf280 CH281.1 Sf279
    have Sf286 := Safe.wr W284 Sf280 CH281.1 Sf280
    have CH287 := CH281.trans (CHr.wr W284 Sf280 CH281.1)
    have V284 : Arv Z h284 b273 k273 .char (5 : Int32) [(.int r_3), (.int (nar .char r_7)), (.int 0), (.int 0), (.int 0)] (.int 0) := Arv.set Ar284 q284 Sz284 Nn284 Hs284 Gs284 (fits_nar_char _) W284 1 rfl (Nat.le_of_ble_eq_true rfl)
    have Vn284 : Arv Z h284 b273 k273 .char (5 : Int32) [(.int r_3), (.int r_7), (.int 0), (.int 0), (.int 0)] (.int 0) := by have q := V284; rw [own_nr hok_7] at q; exact q
    have N284 := Fr.snoc X284 N278 g_b273
    have O_284 := O_278.wr W284 g_b273
    refine GoesW.step (B := T284.setTop (mkF m 207 #[.val (.int i0), .val (.int i1), .val (.int i2), .val (.int i3), .val (.int i4), .val (.int i5), .val (.ref b1), .val (.int 5), .unset, .unset, .unset, .unset, .unset] [(.ref b273)])) st284 ?_
    refine GoesW.step (fun _ k => pw_dup X284.here hx (hb hby at_207) rfl _ (pw_iconst X284.here hx (v := (2 : Int32)) (hb hby at_208) rfl _ (pw_aload X284.here hx (hb hby at_209) rfl rfl _ (pw_iconst X284.here hx (v := (2 : Int32)) (hb hby at_211) rfl _ k)))) ?_
    have f288 := (f282.other W284 ne_b1_b273)
    obtain ⟨c289, Ar289, -, Sz289, Nn289, Hs289, -⟩ := id f288
    have hin289 : ¬ ((2 : Int32) < 0 ∨ c289.slots.size ≤ ((2 : Int32)).toNatClampNeg) := inb_of Sz289 ⟨by decide, by decide⟩
    refine GoesW.step (B := T284.setTop (mkF m 213 #[.val (.int i0), .val (.int i1), .val (.int i2), .val (.int i3), .val (.int i4), .val (.int i5), .val (.ref b1), .val (.int 5), .unset, .unset, .unset, .unset, .unset] [(.int r_11), (.int 2), (.ref b273), (.ref b273)])) (X284.caload hx (j := (2 : Int32)) (v := (.int r_11)) (by rw [e284]; exact Ar289.1) (State.isArrayOf_alike hZ.alike Ar289.2.1) Ar289.2.2 hin289 (Has.at Hs289 hin289 rfl) (g := (mkF m 212 #[.val (.int i0), .val (.int i1), .val (.int i2), .val (.int i3), .val (.int i4), .val (.int i5), .val (.ref b1), .val (.int 5), .unset, .unset, .unset, .unset, .unset] [(.int 2), (.ref b1), (.int 2), (.ref b273), (.ref b273)])) rfl rfl (hb hby at_212)) ?_
    obtain ⟨c290, Ar290, q290, Sz290, Nn290, Hs290, Gs290⟩ := id Vn284
    have hin290 : ¬ ((2 : Int32) < 0 ∨ c290.slots.size ≤ ((2 : Int32)).toNatClampNeg) := inb_of Sz290 ⟨by decide, by decide⟩
    obtain ⟨T290, h290, X290, e290, W290, st290⟩ := stC X284 hx hZ e284 Ar290 (j := (2 : Int32)) hin290 (g := (mkF m 213 #[.val (.int i0), .val (.int i1), .val (.int i2), .val (.int i3), .val (.int i4), .val (.int i5), .val (.ref b1), .val (.int 5), .unset, .unset, .unset, .unset, .unset] [(.int r_11), (.int 2), (.ref b273), (.ref b273)])) rfl rfl (hb hby at_213)
    have Sf291 := Safe.wr W290 Sf286 CH287.1 Sf285
    have Sf292 := Safe.wr W290 Sf286 CH287.1 Sf286
    have CH293 := CH287.trans (CHr.wr W290 Sf286 CH287.1)
    have V290 : Arv Z h290 b273 k273 .char (5 : Int32) [(.int r_3), (.int r_7), (.int (nar .char r_11)), (.int 0), (.int 0)] (.int 0) := Arv.set Ar290 q290 Sz290 Nn290 Hs290 Gs290 (fits_nar_char _) W290 2 rfl (Nat.le_of_ble_eq_true rfl)
    have Vn290 : Arv Z h290 b273 k273 .char (5 : Int32) [(.int r_3), (.int r_7), (.int r_11), (.int 0), (.int 0)] (.int 0) := by have q := V290; rw [own_nr hok_11] at q; exact q
    have N290 := Fr.snoc X290 N284 g_b273
    have O_290 := O_284.wr W290 g_b273
    refine GoesW.step (B := T290.setTop (mkF m 214 #[.val (.int i0), .val (.int i1), .val (.int i2), .val (.int i3), .val (.int i4), .val (.int i5), .val (.ref b1), .val (.int 5), .unset, .unset, .unset, .unset, .unset] [(.ref b273)])) st290 ?_
    refine GoesW.step (fun _ k => pw_dup X290.here hx (hb hby at_214) rfl _ (pw_iconst X290.here hx (v := (3 : Int32)) (hb hby at_215) rfl _ (pw_aload X290.here hx (hb hby at_216) rfl rfl _ (pw_iconst X290.here hx (v := (3 : Int32)) (hb hby at_218) rfl _ k)))) ?_
    have f294 := (f288.other W290 ne_b1_b273)
    obtain ⟨c295, Ar295, -, Sz295, Nn295, Hs295, -⟩ := id f294
    have hin295 : ¬ ((3 : Int32) < 0 ∨ c295.slots.size ≤ ((3 : Int32)).toNatClampNeg) := inb_of Sz295 ⟨by decide, by decide⟩
    refine GoesW.step (B := T290.setTop (mkF m 220 #[.val (.int i0), .val (.int i1), .val (.int i2), .val (.int i3), .val (.int i4), .val (.int i5), .val (.ref b1), .val (.int 5), .unset, .unset, .unset, .unset, .unset] [(.int r_15), (.int 3), (.ref b273), (.ref b273)])) (X290.caload hx (j := (3 : Int32)) (v := (.int r_15)) (by rw [e290]; exact Ar295.1) (State.isArrayOf_alike hZ.alike Ar295.2.1) Ar295.2.2 hin295 (Has.at Hs295 hin295 rfl) (g := (mkF m 219 #[.val (.int i0), .val (.int i1), .val (.int i2), .val (.int i3), .val (.int i4), .val (.int i5), .val (.ref b1), .val (.int 5), .unset, .unset, .unset, .unset, .unset] [(.int 3), (.ref b1), (.int 3), (.ref b273), (.ref b273)])) rfl rfl (hb hby at_219)) ?_
    obtain ⟨c296, Ar296, q296, Sz296, Nn296, Hs296, Gs296⟩ := id Vn290
    have hin296 : ¬ ((3 : Int32) < 0 ∨ c296.slots.size ≤ ((3 : Int32)).toNatClampNeg) := inb_of Sz296 ⟨by decide, by decide⟩
    obtain ⟨T296, h296, X296, e296, W296, st296⟩ := stC X290 hx hZ e290 Ar296 (j := (3 : Int32)) hin296 (g := (mkF m 220 #[.val (.int i0), .val (.int i1), .val (.int i2), .val (.int i3), .val (.int i4), .val (.int i5), .val (.ref b1), .val (.int 5), .unset, .unset, .unset, .unset, .unset] [(.int r_15), (.int 3), (.ref b273), (.ref b273)])) rfl rfl (hb hby at_220)
    have Sf297 := Safe.wr W296 Sf292 CH293.1 Sf291
    have Sf298 := Safe.wr W296 Sf292 CH293.1 Sf292
    have CH299 := CH293.trans (CHr.wr W296 Sf292 CH293.1)
    have V296 : Arv Z h296 b273 k273 .char (5 : Int32) [(.int r_3), (.int r_7), (.int r_11), (.int (nar .char r_15)), (.int 0)] (.int 0) := Arv.set Ar296 q296 Sz296 Nn296 Hs296 Gs296 (fits_nar_char _) W296 3 rfl (Nat.le_of_ble_eq_true rfl)
    have Vn296 : Arv Z h296 b273 k273 .char (5 : Int32) [(.int r_3), (.int r_7), (.int r_11), (.int r_15), (.int 0)] (.int 0) := by have q := V296; rw [own_nr hok_15] at q; exact q
    have N296 := Fr.snoc X296 N290 g_b273
    have O_296 := O_290.wr W296 g_b273
    refine GoesW.step (B := T296.setTop (mkF m 221 #[.val (.int i0), .val (.int i1), .val (.int i2), .val (.int i3), .val (.int i4), .val (.int i5), .val (.ref b1), .val (.int 5), .unset, .unset, .unset, .unset, .unset] [(.ref b273)])) st296 ?_
    refine GoesW.step (fun _ k => pw_dup X296.here hx (hb hby at_221) rfl _ (pw_iconst X296.here hx (v := (4 : Int32)) (hb hby at_222) rfl _ (pw_aload X296.here hx (hb hby at_223) rfl rfl _ (pw_iconst X296.here hx (v := (4 : Int32)) (hb hby at_225) rfl _ k)))) ?_
    have f300 := (f294.other W296 ne_b1_b273)
    obtain ⟨c301, Ar301, -, Sz301, Nn301, Hs301, -⟩ := id f300
    have hin301 : ¬ ((4 : Int32) < 0 ∨ c301.slots.size ≤ ((4 : Int32)).toNatClampNeg) := inb_of Sz301 ⟨by decide, by decide⟩
    refine GoesW.step (B := T296.setTop (mkF m 227 #[.val (.int i0), .val (.int i1), .val (.int i2), .val (.int i3), .val (.int i4), .val (.int i5), .val (.ref b1), .val (.int 5), .unset, .unset, .unset, .unset, .unset] [(.int r_19), (.int 4), (.ref b273), (.ref b273)])) (X296.caload hx (j := (4 : Int32)) (v := (.int r_19)) (by rw [e296]; exact Ar301.1) (State.isArrayOf_alike hZ.alike Ar301.2.1) Ar301.2.2 hin301 (Has.at Hs301 hin301 rfl) (g := (mkF m 226 #[.val (.int i0), .val (.int i1), .val (.int i2), .val (.int i3), .val (.int i4), .val (.int i5), .val (.ref b1), .val (.int 5), .unset, .unset, .unset, .unset, .unset] [(.int 4), (.ref b1), (.int 4), (.ref b273), (.ref b273)])) rfl rfl (hb hby at_226)) ?_
    obtain ⟨c302, Ar302, q302, Sz302, Nn302, Hs302, Gs302⟩ := id Vn296
    have hin302 : ¬ ((4 : Int32) < 0 ∨ c302.slots.size ≤ ((4 : Int32)).toNatClampNeg) := inb_of Sz302 ⟨by decide, by decide⟩
    obtain ⟨T302, h302, X302, e302, W302, st302⟩ := stC X296 hx hZ e296 Ar302 (j := (4 : Int32)) hin302 (g := (mkF m 227 #[.val (.int i0), .val (.int i1), .val (.int i2), .val (.int i3), .val (.int i4), .val (.int i5), .val (.ref b1), .val (.int 5), .unset, .unset, .unset, .unset, .unset] [(.int r_19), (.int 4), (.ref b273), (.ref b273)])) rfl rfl (hb hby at_227)
    have Sf303 := Safe.wr W302 Sf298 CH299.1 Sf297
    have Sf304 := Safe.wr W302 Sf298 CH299.1 Sf298
    have CH305 := CH299.trans (CHr.wr W302 Sf298 CH299.1)
    have V302 : Arv Z h302 b273 k273 .char (5 : Int32) [(.int r_3), (.int r_7), (.int r_11), (.int r_15), (.int (nar .char r_19))] (.int 0) := Arv.set Ar302 q302 Sz302 Nn302 Hs302 Gs302 (fits_nar_char _) W302 4 rfl (Nat.le_of_ble_eq_true rfl)
    have Vn302 : Arv Z h302 b273 k273 .char (5 : Int32) [(.int r_3), (.int r_7), (.int r_11), (.int r_15), (.int r_19)] (.int 0) := by have q := V302; rw [own_nr hok_19] at q; exact q
    have N302 := Fr.snoc X302 N296 g_b273
    have O_302 := O_296.wr W302 g_b273
    refine GoesW.step (B := T302.setTop (mkF m 228 #[.val (.int i0), .val (.int i1), .val (.int i2), .val (.int i3), .val (.int i4), .val (.int i5), .val (.ref b1), .val (.int 5), .unset, .unset, .unset, .unset, .unset] [(.ref b273)])) st302 ?_
    refine GoesW.step (fun _ k => pw_astore X302.here hx (l' := #[.val (.int i0), .val (.int i1), .val (.int i2), .val (.int i3), .val (.int i4), .val (.int i5), .val (.ref b1), .val (.int 5), .val (.ref b273), .unset, .unset, .unset, .unset]) (hb hby at_228) rfl rfl _ k) ?_
    obtain ⟨T306, h306, X306, e306, E306, A306, D306, -, st306⟩ := newO X302 hx hZ hown (own_w5 hw) (own_w6 hw) (own_w7 hw) e302 (g := (mkF m 230 #[.val (.int i0), .val (.int i1), .val (.int i2), .val (.int i3), .val (.int i4), .val (.int i5), .val (.ref b1), .val (.int 5), .val (.ref b273), .unset, .unset, .unset, .unset] [])) rfl (hb hby at_230) (by decide) (by decide)
    obtain ⟨b306, g306⟩ : ∃ z, z = h302.size := ⟨_, rfl⟩
    rw [← g306] at A306 D306 st306
    have f307 := (f300.other W302 ne_b1_b273)
    have ne_b1_b306 : b1 ≠ b306 := Nat.ne_of_lt (Nat.lt_of_lt_of_le f307.lt (Nat.le_of_eq g306.symm))
    have ne_b273_b306 : b273 ≠ b306 := Nat.ne_of_lt (Nat.lt_of_lt_of_le Vn302.lt (Nat.le_of_eq g306.symm))
    have g_b306 : n0 ≤ b306 := Nat.le_trans (own_z O_302) (Nat.le_of_eq g306.symm)
    have Sf_b306 := Safe.ext E306 CH305.1 (Safe.new (Nat.le_of_eq g306.symm))
    have Sf308 := Safe.ext E306 CH305.1 Sf303
    have Sf309 := Safe.ext E306 CH305.1 Sf304
    have CH310 := CH305.trans (CHr.ext E306 CH305.1)
    have O_306 := O_302.ext E306
    have F306_coder : Fld Z h306 b306 "java/lang/String" "coder" "B" (.int 0) := D306 (Or.inr (own_w31 hw)) (ty := .byte) (by decide)
    have F306_value : Fld Z h306 b306 "java/lang/String" "value" "[B" .null := D306 (Or.inr (own_w33 hw)) (ty := (.array .byte)) (by decide)
    refine GoesW.step (B := T306.setTop (mkF m 233 #[.val (.int i0), .val (.int i1), .val (.int i2), .val (.int i3), .val (.int i4), .val (.int i5), .val (.ref b1), .val (.int 5), .val (.ref b273), .unset, .unset, .unset, .unset] [(.ref b306)])) st306 ?_
    refine GoesW.step (fun _ k => pw_dup X306.here hx (hb hby at_233) rfl _ (pw_aload X306.here hx (hb hby at_234) rfl rfl _ k)) ?_
    have f312 := (Vn302.ext E306)
    have f313 := S_COMPACT_STRINGS.ext O_306.2
    obtain ⟨_, _, ⟨T311, qL311, qk311, qn311⟩, -, X311, ⟨Lc311, hQ311, ql311, qy311, qz311⟩, st311⟩ := X306.specialBack hx (y := (⟨"java/lang/String", "<init>", "([C)V"⟩ : MethodName)) rfl hown (mvT hZ (own_w8 hw)) (mvT hZ (own_w9 hw)) (mvT hZ (own_w10 hw)) (by decide) (backOf (W := 1) (rmSI_5 l Z a0 hw [] b306 b273 k273 cs r_3 r_7 r_11 r_15 r_19 h306 n0 O_306 A306 g_b306 F306_value F306_coder f312 f313 hcs hok_3 hok_7 hok_11 hok_15 hok_19) hZ (own_w10 hw) (own_w7 hw) (by decide) (by decide)) (g := (mkF m 236 #[.val (.int i0), .val (.int i1), .val (.int i2), .val (.int i3), .val (.int i4), .val (.int i5), .val (.ref b1), .val (.int 5), .val (.ref b273), .unset, .unset, .unset, .unset] [(.ref b273), (.ref b306), (.ref b306)])) rfl (by rw [hml]; rfl) (Steps.refl _) (a := b306) (argsL := [(.ref b273)]) (rest := [(.ref b306)]) (lenOf pd_22 rfl) rfl (by show 2 * 0 + _ ≤ _; exact Nat.le_of_eq rfl) (hb hby at_236) (fun _ _ => ⟨rfl, e306, (by decide : 3 + 1 ≤ _), (by decide : 14 + 5 ≤ _)⟩)
    dsimp only [Pt.U, Pt.locs, Pt.cells, Pt.slots] at X311 ql311 qy311 qz311 st311 hQ311
    rw [ql311, qy311, qz311] at X311
    obtain ⟨rfl, Nq311, Kp311, Ex311, sv311, sk311, Fsv311, Fsc311, Vsv311⟩ := hQ311
    have Sf314 := Safe.keep Kp311 (sfS Sf_b306 sf0) CH310.1 Sf308
    have Sf315 := Safe.keep Kp311 (sfS Sf_b306 sf0) CH310.1 Sf309
    have Sf316 := Safe.keep Kp311 (sfS Sf_b306 sf0) CH310.1 Sf_b306
    have CH317 := CH310.trans (CHr.keep Kp311 (sfS Sf_b306 sf0) CH310.1)
    have O_311 := O_306.keep Kp311 (allS g_b306 all0)
    have N311 := Fr.app N302 Nq311
    refine GoesW.via (B := T311.setTop (mkF m 239 #[.val (.int i0), .val (.int i1), .val (.int i2), .val (.int i3), .val (.int i4), .val (.int i5), .val (.ref b1), .val (.int 5), .val (.ref b273), .unset, .unset, .unset, .unset] [(.ref b306)])) st311 ?_
    refine GoesW.step (fun _ k => pw_astore X311.here hx (l' := #[.val (.int i0), .val (.int i1), .val (.int i2), .val (.int i3), .val (.int i4), .val (.int i5), .val (.ref b1), .val (.int 5), .val (.ref b273), .val (.ref b306), .unset, .unset, .unset]) (hb hby at_239) rfl rfl _ (pw_aload X311.here hx (hb hby at_241) rfl rfl _ k)) ?_
    have f319 := S_COMPACT_STRINGS.ext O_311.2
    obtain ⟨_, vw318, ⟨T318, qL318, qk318, qn318⟩, -, Xr318, S2318, sz318, ⟨Lc318, hQ318, ql318, qy318, qz318, Hc318⟩, st318⟩ := callSS X311 hx (y := (⟨"com/example/partwright/partwright/reader/FormPart", "lastPathComponent", "(Ljava/lang/String;)Ljava/lang/String;"⟩ : MethodName)) hown (mvT hZ (own_w34 hw)) (mvT hZ (own_w35 hw)) (mvT hZ (own_w36 hw)) (mvT hZ (own_w37 hw)) (by decide) (backOfSH (W := 0) (rmLP l Z a0 hw [] b306 sv311 sk311 (5 : Int32) [(own_b r_3), (own_b r_7), (own_b r_11), (own_b r_15), (own_b r_19)] cs fm T311.heap n0 O_311 FS Ex311 Fsc311 Fsv311 Vsv311 rfl (by decide)) hZ (own_w37 hw) (own_w36 hw) (by decide) (by decide) (own_EW hw) CH317.1) (g := (mkF m 243 #[.val (.int i0), .val (.int i1), .val (.int i2), .val (.int i3), .val (.int i4), .val (.int i5), .val (.ref b1), .val (.int 5), .val (.ref b273), .val (.ref b306), .unset, .unset, .unset] [(.ref b306)])) rfl (by rw [hml]; rfl) (argsL := [(.ref b306)]) (rest := []) (lenOf pd_23 rfl) rfl (by show 2 * 0 + _ ≤ _; exact Nat.le_of_eq rfl) (hb hby at_243) (fun _ _ => ⟨rfl, rfl, (by decide : 4 + 2 ≤ _), (by decide : 19 + 9 ≤ _)⟩)
    dsimp only [Pt.U, Pt.locs, Pt.cells, Pt.slots] at Xr318 S2318 sz318 ql318 qy318 qz318 st318 hQ318 Hc318
    rw [ql318, qy318, qz318] at Xr318
    obtain ⟨X318, hS318, hZ318, hown318⟩ := rebS hS0 (by exact (Nat.le_trans (Nat.le_trans (Nat.le_trans (Nat.le_trans (Nat.le_trans (Nat.le_trans (Nat.le_trans (Nat.le_trans (Nat.le_trans (Nat.le_trans (Nat.le_trans (Nat.le_trans (Nat.le_trans (Nat.le_trans (Nat.le_refl _) E1.1) (Nat.le_of_eq W4.size.symm)) (Nat.le_of_eq W8.size.symm)) (Nat.le_of_eq W12.size.symm)) (Nat.le_of_eq W16.size.symm)) (Nat.le_of_eq W20.size.symm)) E273.1) (Nat.le_of_eq W278.size.symm)) (Nat.le_of_eq W284.size.symm)) (Nat.le_of_eq W290.size.symm)) (Nat.le_of_eq W296.size.symm)) (Nat.le_of_eq W302.size.symm)) E306.1) Kp311.1)) Xr318 S2318 sz318 hZ hown
    have CHc318 := CH317.trans Hc318
    obtain ⟨r318, vb318, kv318, mm318, bb318, rfl, Nq318, Kp318, hbb318, hmm318, Er318, Fv318, Fc318, Vr318⟩ := hQ318
    have f321 := ((f307.ext E306).keep Kp311 (ninS ne_b1_b306 nin0))
    have Sf320 := CHr.safe Hc318 f321.lt Sf314
    have f323 := (f312.keep Kp311 (ninS ne_b273_b306 nin0))
    have Sf322 := CHr.safe Hc318 f323.lt Sf315
    have Sf324 := CHr.safe Hc318 Ex311.lt Sf316
    have O_318 := O_311.keep Kp318 all0
    have N318 := Fr.app N311 Nq318
    refine GoesW.via (B := T318.setTop (mkF m 246 #[.val (.int i0), .val (.int i1), .val (.int i2), .val (.int i3), .val (.int i4), .val (.int i5), .val (.ref b1), .val (.int 5), .val (.ref b273), .val (.ref b306), .unset, .unset, .unset] [(.ref r318)])) st318 ?_
    refine GoesW.step (fun _ k => pw_astore X318.here hx (l' := #[.val (.int i0), .val (.int i1), .val (.int i2), .val (.int i3), .val (.int i4), .val (.int i5), .val (.ref b1), .val (.int 5), .val (.ref b273), .val (.ref b306), .val (.ref r318), .unset, .unset]) (hb hby at_246) rfl rfl _ (pw_iconst X318.here hx (v := (-1 : Int32)) (hb hby at_248) rfl _ (pw_istore X318.here hx (l' := #[.val (.int i0), .val (.int i1), .val (.int i2), .val (.int i3), .val (.int i4), .val (.int i5), .val (.ref b1), .val (.int 5), .val (.ref b273), .val (.ref b306), .val (.ref r318), .val (.int (-1)), .unset]) (hb hby at_249) rfl _ (pw_iload X318.here hx (hb hby at_251) rfl _ (pw_ifNo X318.here hx (hb hby at_253) ((if0 _ _).trans (tlt (by decide)).2.2.2) _ (pw_aload X318.here hx (hb hby at_256) rfl rfl _ k)))))) ?_
    refine GoesW.step (fun _ k => pw_iconst X318.here hx (v := (0 : Int32)) (hb hby at_258) rfl _ k) ?_
    have f325 := (f321.keep Kp318 nin0)
    obtain ⟨c326, Ar326, -, Sz326, Nn326, Hs326, -⟩ := id f325
    have hin326 : ¬ ((0 : Int32) < 0 ∨ c326.slots.size ≤ ((0 : Int32)).toNatClampNeg) := inb_of Sz326 ⟨by decide, by decide⟩
    refine GoesW.step (B := T318.setTop (mkF m 260 #[.val (.int i0), .val (.int i1), .val (.int i2), .val (.int i3), .val (.int i4), .val (.int i5), .val (.ref b1), .val (.int 5), .val (.ref b273), .val (.ref b306), .val (.ref r318), .val (.int (-1)), .unset] [(.int r_3)])) (X318.caload hx (j := (0 : Int32)) (v := (.int r_3)) (by exact Ar326.1) (State.isArrayOf_alike hZ318.alike Ar326.2.1) Ar326.2.2 hin326 (Has.at Hs326 hin326 rfl) (g := (mkF m 259 #[.val (.int i0), .val (.int i1), .val (.int i2), .val (.int i3), .val (.int i4), .val (.int i5), .val (.ref b1), .val (.int 5), .val (.ref b273), .val (.ref b306), .val (.ref r318), .val (.int (-1)), .unset] [(.int 0), (.ref b1)])) rfl rfl (hb hby at_259)) ?_
    obtain ⟨_, _, ⟨T327, qL327, qk327, qn327⟩, -, X327, ⟨Lc327, hQ327, ql327, qy327, qz327⟩, st327⟩ := Jvm.LawKit.callS X318 hx (y := (⟨"com/example/partwright/partwright/reader/FormPartLastPathComponentPinLaw", "sep", "(C)Z"⟩ : MethodName)) hown318 (mvT hZ318 (own_w117 hw)) (mvT hZ318 (own_w118 hw)) (mvT hZ318 (own_w3 hw)) (mvT hZ318 (own_w119 hw)) (by decide) (backOf (W := 0) (rm27 l Z a0 hw [] r_3 T318.heap n0 O_318 ) hZ318 (own_w119 hw) (own_w3 hw) (by decide) (by decide)) (g := (mkF m 260 #[.val (.int i0), .val (.int i1), .val (.int i2), .val (.int i3), .val (.int i4), .val (.int i5), .val (.ref b1), .val (.int 5), .val (.ref b273), .val (.ref b306), .val (.ref r318), .val (.int (-1)), .unset] [(.int r_3)])) rfl (by rw [hml]; rfl) (argsL := [(.int r_3)]) (rest := []) (lenOf pd_25 rfl) rfl (by show 2 * 0 + _ ≤ _; exact Nat.le_of_eq rfl) (hb hby at_260) (fun _ _ => ⟨rfl, rfl, (by decide : 6 + 0 ≤ _), (by decide : 28 + 0 ≤ _)⟩)
    dsimp only [Pt.U, Pt.locs, Pt.cells, Pt.slots] at X327 ql327 qy327 qz327 st327 hQ327
    rw [ql327, qy327, qz327] at X327
    obtain ⟨rfl, Nq327, eh327⟩ := hQ327
    have N327 := Fr.app N318 Nq327
    refine GoesW.step (B := T327.setTop (mkF m 263 #[.val (.int i0), .val (.int i1), .val (.int i2), .val (.int i3), .val (.int i4), .val (.int i5), .val (.ref b1), .val (.int 5), .val (.ref b273), .val (.ref b306), .val (.ref r318), .val (.int (-1)), .unset] [(.int (own_sep r_3))])) st327 ?_
    have J328 : ∀ (kj0 : Int32), kj0 = own_k1 r_3 → GoesW p e below s (Q0 Z i0 i1 i2 i3 i4 i5 cs fm h0 n0) room_1.cells room_1.slots (T327.setTop (mkF m 269 #[.val (.int i0), .val (.int i1), .val (.int i2), .val (.int i3), .val (.int i4), .val (.int i5), .val (.ref b1), .val (.int 5), .val (.ref b273), .val (.ref b306), .val (.ref r318), .val (.int kj0), .unset] [])) := by
     intro kj0 hkj0
     refine GoesW.step (fun _ k => pw_iload X327.here hx (hb hby at_269) rfl _ (pw_iconst X327.here hx (v := (1 : Int32)) (hb hby at_271) rfl _ (pw_icmpNo X327.here hx (hb hby at_272) (tlt (by decide)).2.2.2 _ (pw_aload X327.here hx (hb hby at_275) rfl rfl _ (pw_iconst X327.here hx (v := (1 : Int32)) (hb hby at_277) rfl _ k))))) ?_
     obtain ⟨c329, Ar329, -, Sz329, Nn329, Hs329, -⟩ := id f325
     have hin329 : ¬ ((1 : Int32) < 0 ∨ c329.slots.size ≤ ((1 : Int32)).toNatClampNeg) := inb_of Sz329 ⟨by decide, by decide⟩
     refine GoesW.step (B := T327.setTop (mkF m 279 #[.val (.int i0), .val (.int i1), .val (.int i2), .val (.int i3), .val (.int i4), .val (.int i5), .val (.ref b1), .val (.int 5), .val (.ref b273), .val (.ref b306), .val (.ref r318), .val (.int kj0), .unset] [(.int r_7)])) (X327.caload hx (j := (1 : Int32)) (v := (.int r_7)) (by rw [eh327]; exact Ar329.1) (State.isArrayOf_alike hZ318.alike Ar329.2.1) Ar329.2.2 hin329 (Has.at Hs329 hin329 rfl) (g := (mkF m 278 #[.val (.int i0), .val (.int i1), .val (.int i2), .val (.int i3), .val (.int i4), .val (.int i5), .val (.ref b1), .val (.int 5), .val (.ref b273), .val (.ref b306), .val (.ref r318), .val (.int kj0), .unset] [(.int 1), (.ref b1)])) rfl rfl (hb hby at_278)) ?_
     obtain ⟨_, _, ⟨T330, qL330, qk330, qn330⟩, -, X330, ⟨Lc330, hQ330, ql330, qy330, qz330⟩, st330⟩ := Jvm.LawKit.callS X327 hx (y := (⟨"com/example/partwright/partwright/reader/FormPartLastPathComponentPinLaw", "sep", "(C)Z"⟩ : MethodName)) hown318 (mvT hZ318 (own_w117 hw)) (mvT hZ318 (own_w118 hw)) (mvT hZ318 (own_w3 hw)) (mvT hZ318 (own_w119 hw)) (by decide) (backOf (W := 0) (rm27 l Z a0 hw [] r_7 T318.heap n0 O_318 ) hZ318 (own_w119 hw) (own_w3 hw) (by decide) (by decide)) (g := (mkF m 279 #[.val (.int i0), .val (.int i1), .val (.int i2), .val (.int i3), .val (.int i4), .val (.int i5), .val (.ref b1), .val (.int 5), .val (.ref b273), .val (.ref b306), .val (.ref r318), .val (.int kj0), .unset] [(.int r_7)])) rfl (by rw [hml]; rfl) (argsL := [(.int r_7)]) (rest := []) (lenOf pd_25 rfl) rfl (by show 2 * 0 + _ ≤ _; exact Nat.le_of_eq rfl) (hb hby at_279) (fun _ _ => ⟨rfl, eh327, (by decide : 6 + 0 ≤ _), (by decide : 28 + 0 ≤ _)⟩)
     dsimp only [Pt.U, Pt.locs, Pt.cells, Pt.slots] at X330 ql330 qy330 qz330 st330 hQ330
     rw [ql330, qy330, qz330] at X330
     obtain ⟨rfl, Nq330, eh330⟩ := hQ330
     have N330 := Fr.app N327 Nq330
     refine GoesW.step (B := T330.setTop (mkF m 282 #[.val (.int i0), .val (.int i1), .val (.int i2), .val (.int i3), .val (.int i4), .val (.int i5), .val (.ref b1), .val (.int 5), .val (.ref b273), .val (.ref b306), .val (.ref r318), .val (.int kj0), .unset] [(.int (own_sep r_7))])) st330 ?_
     have J331 : ∀ (kj1 : Int32), kj1 = own_k2 r_3 r_7 → GoesW p e below s (Q0 Z i0 i1 i2 i3 i4 i5 cs fm h0 n0) room_1.cells room_1.slots (T330.setTop (mkF m 288 #[.val (.int i0), .val (.int i1), .val (.int i2), .val (.int i3), .val (.int i4), .val (.int i5), .val (.ref b1), .val (.int 5), .val (.ref b273), .val (.ref b306), .val (.ref r318), .val (.int kj1), .unset] [])) := by
      intro kj1 hkj1
      refine GoesW.step (fun _ k => pw_iload X330.here hx (hb hby at_288) rfl _ (pw_iconst X330.here hx (v := (2 : Int32)) (hb hby at_290) rfl _ (pw_icmpNo X330.here hx (hb hby at_291) (tlt (by decide)).2.2.2 _ (pw_aload X330.here hx (hb hby at_294) rfl rfl _ (pw_iconst X330.here hx (v := (2 : Int32)) (hb hby at_296) rfl _ k))))) ?_
      obtain ⟨c332, Ar332, -, Sz332, Nn332, Hs332, -⟩ := id f325
      have hin332 : ¬ ((2 : Int32) < 0 ∨ c332.slots.size ≤ ((2 : Int32)).toNatClampNeg) := inb_of Sz332 ⟨by decide, by decide⟩
      refine GoesW.step (B := T330.setTop (mkF m 298 #[.val (.int i0), .val (.int i1), .val (.int i2), .val (.int i3), .val (.int i4), .val (.int i5), .val (.ref b1), .val (.int 5), .val (.ref b273), .val (.ref b306), .val (.ref r318), .val (.int kj1), .unset] [(.int r_11)])) (X330.caload hx (j := (2 : Int32)) (v := (.int r_11)) (by rw [eh330]; exact Ar332.1) (State.isArrayOf_alike hZ318.alike Ar332.2.1) Ar332.2.2 hin332 (Has.at Hs332 hin332 rfl) (g := (mkF m 297 #[.val (.int i0), .val (.int i1), .val (.int i2), .val (.int i3), .val (.int i4), .val (.int i5), .val (.ref b1), .val (.int 5), .val (.ref b273), .val (.ref b306), .val (.ref r318), .val (.int kj1), .unset] [(.int 2), (.ref b1)])) rfl rfl (hb hby at_297)) ?_
      obtain ⟨_, _, ⟨T333, qL333, qk333, qn333⟩, -, X333, ⟨Lc333, hQ333, ql333, qy333, qz333⟩, st333⟩ := Jvm.LawKit.callS X330 hx (y := (⟨"com/example/partwright/partwright/reader/FormPartLastPathComponentPinLaw", "sep", "(C)Z"⟩ : MethodName)) hown318 (mvT hZ318 (own_w117 hw)) (mvT hZ318 (own_w118 hw)) (mvT hZ318 (own_w3 hw)) (mvT hZ318 (own_w119 hw)) (by decide) (backOf (W := 0) (rm27 l Z a0 hw [] r_11 T318.heap n0 O_318 ) hZ318 (own_w119 hw) (own_w3 hw) (by decide) (by decide)) (g := (mkF m 298 #[.val (.int i0), .val (.int i1), .val (.int i2), .val (.int i3), .val (.int i4), .val (.int i5), .val (.ref b1), .val (.int 5), .val (.ref b273), .val (.ref b306), .val (.ref r318), .val (.int kj1), .unset] [(.int r_11)])) rfl (by rw [hml]; rfl) (argsL := [(.int r_11)]) (rest := []) (lenOf pd_25 rfl) rfl (by show 2 * 0 + _ ≤ _; exact Nat.le_of_eq rfl) (hb hby at_298) (fun _ _ => ⟨rfl, eh330, (by decide : 6 + 0 ≤ _), (by decide : 28 + 0 ≤ _)⟩)
      dsimp only [Pt.U, Pt.locs, Pt.cells, Pt.slots] at X333 ql333 qy333 qz333 st333 hQ333
      rw [ql333, qy333, qz333] at X333
      obtain ⟨rfl, Nq333, eh333⟩ := hQ333
      have N333 := Fr.app N330 Nq333
      refine GoesW.step (B := T333.setTop (mkF m 301 #[.val (.int i0), .val (.int i1), .val (.int i2), .val (.int i3), .val (.int i4), .val (.int i5), .val (.ref b1), .val (.int 5), .val (.ref b273), .val (.ref b306), .val (.ref r318), .val (.int kj1), .unset] [(.int (own_sep r_11))])) st333 ?_
      have J334 : ∀ (kj2 : Int32), kj2 = own_k3 r_3 r_7 r_11 → GoesW p e below s (Q0 Z i0 i1 i2 i3 i4 i5 cs fm h0 n0) room_1.cells room_1.slots (T333.setTop (mkF m 307 #[.val (.int i0), .val (.int i1), .val (.int i2), .val (.int i3), .val (.int i4), .val (.int i5), .val (.ref b1), .val (.int 5), .val (.ref b273), .val (.ref b306), .val (.ref r318), .val (.int kj2), .unset] [])) := by
       intro kj2 hkj2
       refine GoesW.step (fun _ k => pw_iload X333.here hx (hb hby at_307) rfl _ (pw_iconst X333.here hx (v := (3 : Int32)) (hb hby at_309) rfl _ (pw_icmpNo X333.here hx (hb hby at_310) (tlt (by decide)).2.2.2 _ (pw_aload X333.here hx (hb hby at_313) rfl rfl _ (pw_iconst X333.here hx (v := (3 : Int32)) (hb hby at_315) rfl _ k))))) ?_
       obtain ⟨c335, Ar335, -, Sz335, Nn335, Hs335, -⟩ := id f325
       have hin335 : ¬ ((3 : Int32) < 0 ∨ c335.slots.size ≤ ((3 : Int32)).toNatClampNeg) := inb_of Sz335 ⟨by decide, by decide⟩
       refine GoesW.step (B := T333.setTop (mkF m 317 #[.val (.int i0), .val (.int i1), .val (.int i2), .val (.int i3), .val (.int i4), .val (.int i5), .val (.ref b1), .val (.int 5), .val (.ref b273), .val (.ref b306), .val (.ref r318), .val (.int kj2), .unset] [(.int r_15)])) (X333.caload hx (j := (3 : Int32)) (v := (.int r_15)) (by rw [eh333]; exact Ar335.1) (State.isArrayOf_alike hZ318.alike Ar335.2.1) Ar335.2.2 hin335 (Has.at Hs335 hin335 rfl) (g := (mkF m 316 #[.val (.int i0), .val (.int i1), .val (.int i2), .val (.int i3), .val (.int i4), .val (.int i5), .val (.ref b1), .val (.int 5), .val (.ref b273), .val (.ref b306), .val (.ref r318), .val (.int kj2), .unset] [(.int 3), (.ref b1)])) rfl rfl (hb hby at_316)) ?_
       obtain ⟨_, _, ⟨T336, qL336, qk336, qn336⟩, -, X336, ⟨Lc336, hQ336, ql336, qy336, qz336⟩, st336⟩ := Jvm.LawKit.callS X333 hx (y := (⟨"com/example/partwright/partwright/reader/FormPartLastPathComponentPinLaw", "sep", "(C)Z"⟩ : MethodName)) hown318 (mvT hZ318 (own_w117 hw)) (mvT hZ318 (own_w118 hw)) (mvT hZ318 (own_w3 hw)) (mvT hZ318 (own_w119 hw)) (by decide) (backOf (W := 0) (rm27 l Z a0 hw [] r_15 T318.heap n0 O_318 ) hZ318 (own_w119 hw) (own_w3 hw) (by decide) (by decide)) (g := (mkF m 317 #[.val (.int i0), .val (.int i1), .val (.int i2), .val (.int i3), .val (.int i4), .val (.int i5), .val (.ref b1), .val (.int 5), .val (.ref b273), .val (.ref b306), .val (.ref r318), .val (.int kj2), .unset] [(.int r_15)])) rfl (by rw [hml]; rfl) (argsL := [(.int r_15)]) (rest := []) (lenOf pd_25 rfl) rfl (by show 2 * 0 + _ ≤ _; exact Nat.le_of_eq rfl) (hb hby at_317) (fun _ _ => ⟨rfl, eh333, (by decide : 6 + 0 ≤ _), (by decide : 28 + 0 ≤ _)⟩)
       dsimp only [Pt.U, Pt.locs, Pt.cells, Pt.slots] at X336 ql336 qy336 qz336 st336 hQ336
       rw [ql336, qy336, qz336] at X336
       obtain ⟨rfl, Nq336, eh336⟩ := hQ336
       have N336 := Fr.app N333 Nq336
       refine GoesW.step (B := T336.setTop (mkF m 320 #[.val (.int i0), .val (.int i1), .val (.int i2), .val (.int i3), .val (.int i4), .val (.int i5), .val (.ref b1), .val (.int 5), .val (.ref b273), .val (.ref b306), .val (.ref r318), .val (.int kj2), .unset] [(.int (own_sep r_15))])) st336 ?_
       have J337 : ∀ (kj3 : Int32), kj3 = own_k4 r_3 r_7 r_11 r_15 → GoesW p e below s (Q0 Z i0 i1 i2 i3 i4 i5 cs fm h0 n0) room_1.cells room_1.slots (T336.setTop (mkF m 326 #[.val (.int i0), .val (.int i1), .val (.int i2), .val (.int i3), .val (.int i4), .val (.int i5), .val (.ref b1), .val (.int 5), .val (.ref b273), .val (.ref b306), .val (.ref r318), .val (.int kj3), .unset] [])) := by
        intro kj3 hkj3
        refine GoesW.step (fun _ k => pw_iload X336.here hx (hb hby at_326) rfl _ (pw_iconst X336.here hx (v := (4 : Int32)) (hb hby at_328) rfl _ (pw_icmpNo X336.here hx (hb hby at_329) (tlt (by decide)).2.2.2 _ (pw_aload X336.here hx (hb hby at_332) rfl rfl _ (pw_iconst X336.here hx (v := (4 : Int32)) (hb hby at_334) rfl _ k))))) ?_
        obtain ⟨c338, Ar338, -, Sz338, Nn338, Hs338, -⟩ := id f325
        have hin338 : ¬ ((4 : Int32) < 0 ∨ c338.slots.size ≤ ((4 : Int32)).toNatClampNeg) := inb_of Sz338 ⟨by decide, by decide⟩
        refine GoesW.step (B := T336.setTop (mkF m 336 #[.val (.int i0), .val (.int i1), .val (.int i2), .val (.int i3), .val (.int i4), .val (.int i5), .val (.ref b1), .val (.int 5), .val (.ref b273), .val (.ref b306), .val (.ref r318), .val (.int kj3), .unset] [(.int r_19)])) (X336.caload hx (j := (4 : Int32)) (v := (.int r_19)) (by rw [eh336]; exact Ar338.1) (State.isArrayOf_alike hZ318.alike Ar338.2.1) Ar338.2.2 hin338 (Has.at Hs338 hin338 rfl) (g := (mkF m 335 #[.val (.int i0), .val (.int i1), .val (.int i2), .val (.int i3), .val (.int i4), .val (.int i5), .val (.ref b1), .val (.int 5), .val (.ref b273), .val (.ref b306), .val (.ref r318), .val (.int kj3), .unset] [(.int 4), (.ref b1)])) rfl rfl (hb hby at_335)) ?_
        obtain ⟨_, _, ⟨T339, qL339, qk339, qn339⟩, -, X339, ⟨Lc339, hQ339, ql339, qy339, qz339⟩, st339⟩ := Jvm.LawKit.callS X336 hx (y := (⟨"com/example/partwright/partwright/reader/FormPartLastPathComponentPinLaw", "sep", "(C)Z"⟩ : MethodName)) hown318 (mvT hZ318 (own_w117 hw)) (mvT hZ318 (own_w118 hw)) (mvT hZ318 (own_w3 hw)) (mvT hZ318 (own_w119 hw)) (by decide) (backOf (W := 0) (rm27 l Z a0 hw [] r_19 T318.heap n0 O_318 ) hZ318 (own_w119 hw) (own_w3 hw) (by decide) (by decide)) (g := (mkF m 336 #[.val (.int i0), .val (.int i1), .val (.int i2), .val (.int i3), .val (.int i4), .val (.int i5), .val (.ref b1), .val (.int 5), .val (.ref b273), .val (.ref b306), .val (.ref r318), .val (.int kj3), .unset] [(.int r_19)])) rfl (by rw [hml]; rfl) (argsL := [(.int r_19)]) (rest := []) (lenOf pd_25 rfl) rfl (by show 2 * 0 + _ ≤ _; exact Nat.le_of_eq rfl) (hb hby at_336) (fun _ _ => ⟨rfl, eh336, (by decide : 6 + 0 ≤ _), (by decide : 28 + 0 ≤ _)⟩)
        dsimp only [Pt.U, Pt.locs, Pt.cells, Pt.slots] at X339 ql339 qy339 qz339 st339 hQ339
        rw [ql339, qy339, qz339] at X339
        obtain ⟨rfl, Nq339, eh339⟩ := hQ339
        have N339 := Fr.app N336 Nq339
        refine GoesW.step (B := T339.setTop (mkF m 339 #[.val (.int i0), .val (.int i1), .val (.int i2), .val (.int i3), .val (.int i4), .val (.int i5), .val (.ref b1), .val (.int 5), .val (.ref b273), .val (.ref b306), .val (.ref r318), .val (.int kj3), .unset] [(.int (own_sep r_19))])) st339 ?_
        have J340 : ∀ (kj4 : Int32), kj4 = own_k5 r_3 r_7 r_11 r_15 r_19 → GoesW p e below s (Q0 Z i0 i1 i2 i3 i4 i5 cs fm h0 n0) room_1.cells room_1.slots (T339.setTop (mkF m 345 #[.val (.int i0), .val (.int i1), .val (.int i2), .val (.int i3), .val (.int i4), .val (.int i5), .val (.ref b1), .val (.int 5), .val (.ref b273), .val (.ref b306), .val (.ref r318), .val (.int kj4), .unset] [])) := by
         intro kj4 hkj4
         have hke : kj4 = own_k5 r_3 r_7 r_11 r_15 r_19 := hkj4
         have heq : own_max (own_lix (47 : Int32) [(own_b r_3), (own_b r_7), (own_b r_11), (own_b r_15), (own_b r_19)]) (own_lix (92 : Int32) [(own_b r_3), (own_b r_7), (own_b r_11), (own_b r_15), (own_b r_19)]) = own_k5 r_3 r_7 r_11 r_15 r_19 := own_eq5 hok_3 hok_7 hok_11 hok_15 hok_19
         have hkb : -1 ≤ (kj4 : Int32).toInt ∧ (kj4 : Int32).toInt < 5 := by rw [hke, ← heq]; exact own_mb5 (own_b r_3) (own_b r_7) (own_b r_11) (own_b r_15) (own_b r_19) 47 92
         have hbk : bb318 = kj4 + 1 := by rw [hbb318, heq, hke]
         have hme := own_m5 hkb hbk hmm318
         refine GoesW.step (fun _ k => pw_iload X339.here hx (hb hby at_345) rfl _ (pw_iload X339.here hx (hb hby at_347) rfl _ (pw_isub X339.here hx (hb hby at_349) _ (pw_iconst X339.here hx (v := (1 : Int32)) (hb hby at_350) rfl _ (pw_isub X339.here hx (hb hby at_351) _ (pw_istore X339.here hx (l' := #[.val (.int i0), .val (.int i1), .val (.int i2), .val (.int i3), .val (.int i4), .val (.int i5), .val (.ref b1), .val (.int 5), .val (.ref b273), .val (.ref b306), .val (.ref r318), .val (.int kj4), .val (.int (((5 : Int32) - kj4) - (1 : Int32)))]) (hb hby at_352) rfl _ k)))))) ?_
         refine GoesW.step (fun _ k => pw_aload X339.here hx (hb hby at_354) rfl rfl _ k) ?_
         have f342 := S_COMPACT_STRINGS.ext O_318.2
         obtain ⟨cq341, kq341, qa341, qb341, qc341⟩ := isOf hZ318 eh339 Er318
         obtain ⟨_, _, ⟨T341, qL341, qk341, qn341⟩, -, X341, ⟨Lc341, hQ341, ql341, qy341, qz341⟩, st341⟩ := X339.virtualBack hx (y := (⟨"java/lang/String", "length", "()I"⟩ : MethodName)) (z := (⟨"java/lang/String", "length", "()I"⟩ : MethodName)) hown318 (mvT hZ318 (own_w120 hw)) (mvT hZ318 (own_w44 hw)) (notFace_of_selects (args := #[]) (mvT hZ318 (own_w46 hw))) (mvT hZ318 (own_w46 hw)) (mvT hZ318 (own_w45 hw)) (by decide) (backOf (W := 0) (rm10 l Z a0 hw [] r318 vb318 kv318 mm318 (own_sub [(own_b r_3), (own_b r_7), (own_b r_11), (own_b r_15), (own_b r_19)] bb318 mm318) cs T318.heap n0 O_318 f342 hcs Er318 Fc318 Fv318 Vr318) hZ318 (own_w47 hw) (own_w7 hw) (by decide) (by decide)) qa341 qc341 (g := (mkF m 356 #[.val (.int i0), .val (.int i1), .val (.int i2), .val (.int i3), .val (.int i4), .val (.int i5), .val (.ref b1), .val (.int 5), .val (.ref b273), .val (.ref b306), .val (.ref r318), .val (.int kj4), .val (.int (((5 : Int32) - kj4) - (1 : Int32)))] [(.ref r318)])) rfl (by rw [hml]; rfl) (Steps.refl _) (argsL := []) (rest := []) (lenOf pd_13 rfl) rfl (by show 2 * 0 + _ ≤ _; exact Nat.le_of_eq rfl) (hb hby at_356) (fun _ _ => ⟨rfl, eh339, (by decide : 6 + 0 ≤ _), (by decide : 28 + 0 ≤ _)⟩)
         dsimp only [Pt.U, Pt.locs, Pt.cells, Pt.slots] at X341 ql341 qy341 qz341 st341 hQ341
         rw [ql341, qy341, qz341] at X341
         obtain ⟨rfl, Nq341, eh341⟩ := hQ341
         have N341 := Fr.app N339 Nq341
         refine GoesW.via (B := T341.setTop (mkF m 359 #[.val (.int i0), .val (.int i1), .val (.int i2), .val (.int i3), .val (.int i4), .val (.int i5), .val (.ref b1), .val (.int 5), .val (.ref b273), .val (.ref b306), .val (.ref r318), .val (.int kj4), .val (.int (((5 : Int32) - kj4) - (1 : Int32)))] [(.int mm318)])) st341 ?_
         refine GoesW.step (fun _ k => pw_iload X341.here hx (hb hby at_359) rfl _ (pw_icmpYes X341.here hx (pc' := 366) (hb hby at_361) (teq (by rw [hme])).1 (by decide) (by decide) _ (pw_aload X341.here hx (hb hby at_366) rfl rfl _ (pw_iconst X341.here hx (v := (0 : Int32)) (hb hby at_368) rfl _ (pw_iload X341.here hx (hb hby at_369) rfl _ (pw_aload X341.here hx (hb hby at_371) rfl rfl _ k)))))) ?_
         refine GoesW.step (fun _ k => pw_iload X341.here hx (hb hby at_373) rfl _ (pw_iconst X341.here hx (v := (1 : Int32)) (hb hby at_375) rfl _ (pw_iadd X341.here hx (hb hby at_376) _ k))) ?_
         obtain ⟨_, _, ⟨T343, qL343, qk343, qn343⟩, -, X343, ⟨Lc343, hQ343, ql343, qy343, qz343⟩, st343⟩ := Jvm.LawKit.callS X341 hx (y := (⟨"com/example/partwright/partwright/reader/FormPartLastPathComponentPinLaw", "at", "(Ljava/lang/String;II[CI)Z"⟩ : MethodName)) hown318 (mvT hZ318 (own_w121 hw)) (mvT hZ318 (own_w122 hw)) (mvT hZ318 (own_w3 hw)) (mvT hZ318 (own_w123 hw)) (by decide) (backOf (W := 0) (rmAt l Z a0 hw [] r318 vb318 kv318 mm318 (own_sub [(own_b r_3), (own_b r_7), (own_b r_11), (own_b r_15), (own_b r_19)] bb318 mm318) b1 k1 r_3 r_7 r_11 r_15 r_19 (0 : Int32) (((5 : Int32) - kj4) - (1 : Int32)) (kj4 + (1 : Int32)) cs fm T318.heap n0 O_318 FS Er318 Fc318 Fv318 Vr318 f325 (own_hat5 hok_3 hok_7 hok_11 hok_15 hok_19 hkb hbk hmm318 (by decide) (by decide))) hZ318 (own_w123 hw) (own_w3 hw) (by decide) (by decide)) (g := (mkF m 377 #[.val (.int i0), .val (.int i1), .val (.int i2), .val (.int i3), .val (.int i4), .val (.int i5), .val (.ref b1), .val (.int 5), .val (.ref b273), .val (.ref b306), .val (.ref r318), .val (.int kj4), .val (.int (((5 : Int32) - kj4) - (1 : Int32)))] [(.int (kj4 + (1 : Int32))), (.ref b1), (.int (((5 : Int32) - kj4) - (1 : Int32))), (.int 0), (.ref r318)])) rfl (by rw [hml]; rfl) (argsL := [(.ref r318), (.int 0), (.int (((5 : Int32) - kj4) - (1 : Int32))), (.ref b1), (.int (kj4 + (1 : Int32)))]) (rest := []) (lenOf pd_24 rfl) rfl (by show 2 * 0 + _ ≤ _; exact Nat.le_of_eq rfl) (hb hby at_377) (fun _ _ => ⟨rfl, eh341, (by decide : 6 + 0 ≤ _), (by decide : 28 + 0 ≤ _)⟩)
         dsimp only [Pt.U, Pt.locs, Pt.cells, Pt.slots] at X343 ql343 qy343 qz343 st343 hQ343
         rw [ql343, qy343, qz343] at X343
         obtain ⟨rfl, Nq343, eh343⟩ := hQ343
         have N343 := Fr.app N341 Nq343
         refine GoesW.step (B := T343.setTop (mkF m 380 #[.val (.int i0), .val (.int i1), .val (.int i2), .val (.int i3), .val (.int i4), .val (.int i5), .val (.ref b1), .val (.int 5), .val (.ref b273), .val (.ref b306), .val (.ref r318), .val (.int kj4), .val (.int (((5 : Int32) - kj4) - (1 : Int32)))] [(.int 1)])) st343 ?_
         refine GoesW.step (fun _ k => pw_ifNo X343.here hx (hb hby at_380) ((if0 _ _).trans (feq (by decide)).1) _ (pw_aload X343.here hx (hb hby at_383) rfl rfl _ (pw_iconst X343.here hx (v := (1 : Int32)) (hb hby at_385) rfl _ (pw_iload X343.here hx (hb hby at_386) rfl _ (pw_aload X343.here hx (hb hby at_388) rfl rfl _ (pw_iload X343.here hx (hb hby at_390) rfl _ k)))))) ?_
         refine GoesW.step (fun _ k => pw_iconst X343.here hx (v := (1 : Int32)) (hb hby at_392) rfl _ (pw_iadd X343.here hx (hb hby at_393) _ k)) ?_
         obtain ⟨_, _, ⟨T344, qL344, qk344, qn344⟩, -, X344, ⟨Lc344, hQ344, ql344, qy344, qz344⟩, st344⟩ := Jvm.LawKit.callS X343 hx (y := (⟨"com/example/partwright/partwright/reader/FormPartLastPathComponentPinLaw", "at", "(Ljava/lang/String;II[CI)Z"⟩ : MethodName)) hown318 (mvT hZ318 (own_w121 hw)) (mvT hZ318 (own_w122 hw)) (mvT hZ318 (own_w3 hw)) (mvT hZ318 (own_w123 hw)) (by decide) (backOf (W := 0) (rmAt l Z a0 hw [] r318 vb318 kv318 mm318 (own_sub [(own_b r_3), (own_b r_7), (own_b r_11), (own_b r_15), (own_b r_19)] bb318 mm318) b1 k1 r_3 r_7 r_11 r_15 r_19 (1 : Int32) (((5 : Int32) - kj4) - (1 : Int32)) (kj4 + (1 : Int32)) cs fm T318.heap n0 O_318 FS Er318 Fc318 Fv318 Vr318 f325 (own_hat5 hok_3 hok_7 hok_11 hok_15 hok_19 hkb hbk hmm318 (by decide) (by decide))) hZ318 (own_w123 hw) (own_w3 hw) (by decide) (by decide)) (g := (mkF m 394 #[.val (.int i0), .val (.int i1), .val (.int i2), .val (.int i3), .val (.int i4), .val (.int i5), .val (.ref b1), .val (.int 5), .val (.ref b273), .val (.ref b306), .val (.ref r318), .val (.int kj4), .val (.int (((5 : Int32) - kj4) - (1 : Int32)))] [(.int (kj4 + (1 : Int32))), (.ref b1), (.int (((5 : Int32) - kj4) - (1 : Int32))), (.int 1), (.ref r318)])) rfl (by rw [hml]; rfl) (argsL := [(.ref r318), (.int 1), (.int (((5 : Int32) - kj4) - (1 : Int32))), (.ref b1), (.int (kj4 + (1 : Int32)))]) (rest := []) (lenOf pd_24 rfl) rfl (by show 2 * 0 + _ ≤ _; exact Nat.le_of_eq rfl) (hb hby at_394) (fun _ _ => ⟨rfl, eh343, (by decide : 6 + 0 ≤ _), (by decide : 28 + 0 ≤ _)⟩)
         dsimp only [Pt.U, Pt.locs, Pt.cells, Pt.slots] at X344 ql344 qy344 qz344 st344 hQ344
         rw [ql344, qy344, qz344] at X344
         obtain ⟨rfl, Nq344, eh344⟩ := hQ344
         have N344 := Fr.app N343 Nq344
         refine GoesW.step (B := T344.setTop (mkF m 397 #[.val (.int i0), .val (.int i1), .val (.int i2), .val (.int i3), .val (.int i4), .val (.int i5), .val (.ref b1), .val (.int 5), .val (.ref b273), .val (.ref b306), .val (.ref r318), .val (.int kj4), .val (.int (((5 : Int32) - kj4) - (1 : Int32)))] [(.int 1)])) st344 ?_
         refine GoesW.step (fun _ k => pw_ifNo X344.here hx (hb hby at_397) ((if0 _ _).trans (feq (by decide)).1) _ (pw_aload X344.here hx (hb hby at_400) rfl rfl _ (pw_iconst X344.here hx (v := (2 : Int32)) (hb hby at_402) rfl _ (pw_iload X344.here hx (hb hby at_403) rfl _ (pw_aload X344.here hx (hb hby at_405) rfl rfl _ (pw_iload X344.here hx (hb hby at_407) rfl _ k)))))) ?_
         refine GoesW.step (fun _ k => pw_iconst X344.here hx (v := (1 : Int32)) (hb hby at_409) rfl _ (pw_iadd X344.here hx (hb hby at_410) _ k)) ?_
         obtain ⟨_, _, ⟨T345, qL345, qk345, qn345⟩, -, X345, ⟨Lc345, hQ345, ql345, qy345, qz345⟩, st345⟩ := Jvm.LawKit.callS X344 hx (y := (⟨"com/example/partwright/partwright/reader/FormPartLastPathComponentPinLaw", "at", "(Ljava/lang/String;II[CI)Z"⟩ : MethodName)) hown318 (mvT hZ318 (own_w121 hw)) (mvT hZ318 (own_w122 hw)) (mvT hZ318 (own_w3 hw)) (mvT hZ318 (own_w123 hw)) (by decide) (backOf (W := 0) (rmAt l Z a0 hw [] r318 vb318 kv318 mm318 (own_sub [(own_b r_3), (own_b r_7), (own_b r_11), (own_b r_15), (own_b r_19)] bb318 mm318) b1 k1 r_3 r_7 r_11 r_15 r_19 (2 : Int32) (((5 : Int32) - kj4) - (1 : Int32)) (kj4 + (1 : Int32)) cs fm T318.heap n0 O_318 FS Er318 Fc318 Fv318 Vr318 f325 (own_hat5 hok_3 hok_7 hok_11 hok_15 hok_19 hkb hbk hmm318 (by decide) (by decide))) hZ318 (own_w123 hw) (own_w3 hw) (by decide) (by decide)) (g := (mkF m 411 #[.val (.int i0), .val (.int i1), .val (.int i2), .val (.int i3), .val (.int i4), .val (.int i5), .val (.ref b1), .val (.int 5), .val (.ref b273), .val (.ref b306), .val (.ref r318), .val (.int kj4), .val (.int (((5 : Int32) - kj4) - (1 : Int32)))] [(.int (kj4 + (1 : Int32))), (.ref b1), (.int (((5 : Int32) - kj4) - (1 : Int32))), (.int 2), (.ref r318)])) rfl (by rw [hml]; rfl) (argsL := [(.ref r318), (.int 2), (.int (((5 : Int32) - kj4) - (1 : Int32))), (.ref b1), (.int (kj4 + (1 : Int32)))]) (rest := []) (lenOf pd_24 rfl) rfl (by show 2 * 0 + _ ≤ _; exact Nat.le_of_eq rfl) (hb hby at_411) (fun _ _ => ⟨rfl, eh344, (by decide : 6 + 0 ≤ _), (by decide : 28 + 0 ≤ _)⟩)
         dsimp only [Pt.U, Pt.locs, Pt.cells, Pt.slots] at X345 ql345 qy345 qz345 st345 hQ345
         rw [ql345, qy345, qz345] at X345
         obtain ⟨rfl, Nq345, eh345⟩ := hQ345
         have N345 := Fr.app N344 Nq345
         refine GoesW.step (B := T345.setTop (mkF m 414 #[.val (.int i0), .val (.int i1), .val (.int i2), .val (.int i3), .val (.int i4), .val (.int i5), .val (.ref b1), .val (.int 5), .val (.ref b273), .val (.ref b306), .val (.ref r318), .val (.int kj4), .val (.int (((5 : Int32) - kj4) - (1 : Int32)))] [(.int 1)])) st345 ?_
         refine GoesW.step (fun _ k => pw_ifNo X345.here hx (hb hby at_414) ((if0 _ _).trans (feq (by decide)).1) _ (pw_aload X345.here hx (hb hby at_417) rfl rfl _ (pw_iconst X345.here hx (v := (3 : Int32)) (hb hby at_419) rfl _ (pw_iload X345.here hx (hb hby at_420) rfl _ (pw_aload X345.here hx (hb hby at_422) rfl rfl _ (pw_iload X345.here hx (hb hby at_424) rfl _ k)))))) ?_
         refine GoesW.step (fun _ k => pw_iconst X345.here hx (v := (1 : Int32)) (hb hby at_426) rfl _ (pw_iadd X345.here hx (hb hby at_427) _ k)) ?_
         obtain ⟨_, _, ⟨T346, qL346, qk346, qn346⟩, -, X346, ⟨Lc346, hQ346, ql346, qy346, qz346⟩, st346⟩ := Jvm.LawKit.callS X345 hx (y := (⟨"com/example/partwright/partwright/reader/FormPartLastPathComponentPinLaw", "at", "(Ljava/lang/String;II[CI)Z"⟩ : MethodName)) hown318 (mvT hZ318 (own_w121 hw)) (mvT hZ318 (own_w122 hw)) (mvT hZ318 (own_w3 hw)) (mvT hZ318 (own_w123 hw)) (by decide) (backOf (W := 0) (rmAt l Z a0 hw [] r318 vb318 kv318 mm318 (own_sub [(own_b r_3), (own_b r_7), (own_b r_11), (own_b r_15), (own_b r_19)] bb318 mm318) b1 k1 r_3 r_7 r_11 r_15 r_19 (3 : Int32) (((5 : Int32) - kj4) - (1 : Int32)) (kj4 + (1 : Int32)) cs fm T318.heap n0 O_318 FS Er318 Fc318 Fv318 Vr318 f325 (own_hat5 hok_3 hok_7 hok_11 hok_15 hok_19 hkb hbk hmm318 (by decide) (by decide))) hZ318 (own_w123 hw) (own_w3 hw) (by decide) (by decide)) (g := (mkF m 428 #[.val (.int i0), .val (.int i1), .val (.int i2), .val (.int i3), .val (.int i4), .val (.int i5), .val (.ref b1), .val (.int 5), .val (.ref b273), .val (.ref b306), .val (.ref r318), .val (.int kj4), .val (.int (((5 : Int32) - kj4) - (1 : Int32)))] [(.int (kj4 + (1 : Int32))), (.ref b1), (.int (((5 : Int32) - kj4) - (1 : Int32))), (.int 3), (.ref r318)])) rfl (by rw [hml]; rfl) (argsL := [(.ref r318), (.int 3), (.int (((5 : Int32) - kj4) - (1 : Int32))), (.ref b1), (.int (kj4 + (1 : Int32)))]) (rest := []) (lenOf pd_24 rfl) rfl (by show 2 * 0 + _ ≤ _; exact Nat.le_of_eq rfl) (hb hby at_428) (fun _ _ => ⟨rfl, eh345, (by decide : 6 + 0 ≤ _), (by decide : 28 + 0 ≤ _)⟩)
         dsimp only [Pt.U, Pt.locs, Pt.cells, Pt.slots] at X346 ql346 qy346 qz346 st346 hQ346
         rw [ql346, qy346, qz346] at X346
         obtain ⟨rfl, Nq346, eh346⟩ := hQ346
         have N346 := Fr.app N345 Nq346
         refine GoesW.step (B := T346.setTop (mkF m 431 #[.val (.int i0), .val (.int i1), .val (.int i2), .val (.int i3), .val (.int i4), .val (.int i5), .val (.ref b1), .val (.int 5), .val (.ref b273), .val (.ref b306), .val (.ref r318), .val (.int kj4), .val (.int (((5 : Int32) - kj4) - (1 : Int32)))] [(.int 1)])) st346 ?_
         refine GoesW.step (fun _ k => pw_ifNo X346.here hx (hb hby at_431) ((if0 _ _).trans (feq (by decide)).1) _ (pw_aload X346.here hx (hb hby at_434) rfl rfl _ (pw_iconst X346.here hx (v := (4 : Int32)) (hb hby at_436) rfl _ (pw_iload X346.here hx (hb hby at_437) rfl _ (pw_aload X346.here hx (hb hby at_439) rfl rfl _ (pw_iload X346.here hx (hb hby at_441) rfl _ k)))))) ?_
         refine GoesW.step (fun _ k => pw_iconst X346.here hx (v := (1 : Int32)) (hb hby at_443) rfl _ (pw_iadd X346.here hx (hb hby at_444) _ k)) ?_
         obtain ⟨_, _, ⟨T347, qL347, qk347, qn347⟩, -, X347, ⟨Lc347, hQ347, ql347, qy347, qz347⟩, st347⟩ := Jvm.LawKit.callS X346 hx (y := (⟨"com/example/partwright/partwright/reader/FormPartLastPathComponentPinLaw", "at", "(Ljava/lang/String;II[CI)Z"⟩ : MethodName)) hown318 (mvT hZ318 (own_w121 hw)) (mvT hZ318 (own_w122 hw)) (mvT hZ318 (own_w3 hw)) (mvT hZ318 (own_w123 hw)) (by decide) (backOf (W := 0) (rmAt l Z a0 hw [] r318 vb318 kv318 mm318 (own_sub [(own_b r_3), (own_b r_7), (own_b r_11), (own_b r_15), (own_b r_19)] bb318 mm318) b1 k1 r_3 r_7 r_11 r_15 r_19 (4 : Int32) (((5 : Int32) - kj4) - (1 : Int32)) (kj4 + (1 : Int32)) cs fm T318.heap n0 O_318 FS Er318 Fc318 Fv318 Vr318 f325 (own_hat5 hok_3 hok_7 hok_11 hok_15 hok_19 hkb hbk hmm318 (by decide) (by decide))) hZ318 (own_w123 hw) (own_w3 hw) (by decide) (by decide)) (g := (mkF m 445 #[.val (.int i0), .val (.int i1), .val (.int i2), .val (.int i3), .val (.int i4), .val (.int i5), .val (.ref b1), .val (.int 5), .val (.ref b273), .val (.ref b306), .val (.ref r318), .val (.int kj4), .val (.int (((5 : Int32) - kj4) - (1 : Int32)))] [(.int (kj4 + (1 : Int32))), (.ref b1), (.int (((5 : Int32) - kj4) - (1 : Int32))), (.int 4), (.ref r318)])) rfl (by rw [hml]; rfl) (argsL := [(.ref r318), (.int 4), (.int (((5 : Int32) - kj4) - (1 : Int32))), (.ref b1), (.int (kj4 + (1 : Int32)))]) (rest := []) (lenOf pd_24 rfl) rfl (by show 2 * 0 + _ ≤ _; exact Nat.le_of_eq rfl) (hb hby at_445) (fun _ _ => ⟨rfl, eh346, (by decide : 6 + 0 ≤ _), (by decide : 28 + 0 ≤ _)⟩)
         dsimp only [Pt.U, Pt.locs, Pt.cells, Pt.slots] at X347 ql347 qy347 qz347 st347 hQ347
         rw [ql347, qy347, qz347] at X347
         obtain ⟨rfl, Nq347, eh347⟩ := hQ347
         have N347 := Fr.app N346 Nq347
         refine GoesW.step (B := T347.setTop (mkF m 448 #[.val (.int i0), .val (.int i1), .val (.int i2), .val (.int i3), .val (.int i4), .val (.int i5), .val (.ref b1), .val (.int 5), .val (.ref b273), .val (.ref b306), .val (.ref r318), .val (.int kj4), .val (.int (((5 : Int32) - kj4) - (1 : Int32)))] [(.int 1)])) st347 ?_
         refine GoesW.step (fun _ k => pw_ifNo X347.here hx (hb hby at_448) ((if0 _ _).trans (feq (by decide)).1) _ (pw_iconst X347.here hx (v := (1 : Int32)) (hb hby at_451) rfl _ (pw_goto X347.here hx (pc' := 456) (hb hby at_452) (by decide) (by decide) _ k))) ?_
         exact GoesW.retN X347 hS318 (Nat.le_refl _) hx eh347 (t := .boolean) Bd.returns (by simp) hlk (hb hby at_456) (by decide) (by decide) (⟨rfl, N347⟩)
        by_cases hc339_347 : (own_sep r_19) = (0 : Int32)
        · refine GoesW.step (fun _ k => pw_ifYes X339.here hx (pc' := 345) (hb hby at_339) ((if0 _ _).trans (teq hc339_347).1) (by decide) (by decide) _ k) ?_
          exact J340 kj3 (by rw [own_k5, if_pos hc339_347]; exact hkj3)
        · refine GoesW.step (fun _ k => pw_ifNo X339.here hx (hb hby at_339) ((if0 _ _).trans (feq hc339_347).1) _ (pw_iconst X339.here hx (v := (4 : Int32)) (hb hby at_342) rfl _ (pw_istore X339.here hx (l' := #[.val (.int i0), .val (.int i1), .val (.int i2), .val (.int i3), .val (.int i4), .val (.int i5), .val (.ref b1), .val (.int 5), .val (.ref b273), .val (.ref b306), .val (.ref r318), .val (.int 4), .unset]) (hb hby at_343) rfl _ k))) ?_
          exact J340 (4 : Int32) (by rw [own_k5, if_neg hc339_347])
       by_cases hc320_348 : (own_sep r_15) = (0 : Int32)
       · refine GoesW.step (fun _ k => pw_ifYes X336.here hx (pc' := 326) (hb hby at_320) ((if0 _ _).trans (teq hc320_348).1) (by decide) (by decide) _ k) ?_
         exact J337 kj2 (by rw [own_k4, if_pos hc320_348]; exact hkj2)
       · refine GoesW.step (fun _ k => pw_ifNo X336.here hx (hb hby at_320) ((if0 _ _).trans (feq hc320_348).1) _ (pw_iconst X336.here hx (v := (3 : Int32)) (hb hby at_323) rfl _ (pw_istore X336.here hx (l' := #[.val (.int i0), .val (.int i1), .val (.int i2), .val (.int i3), .val (.int i4), .val (.int i5), .val (.ref b1), .val (.int 5), .val (.ref b273), .val (.ref b306), .val (.ref r318), .val (.int 3), .unset]) (hb hby at_324) rfl _ k))) ?_
         exact J337 (3 : Int32) (by rw [own_k4, if_neg hc320_348])
      by_cases hc301_349 : (own_sep r_11) = (0 : Int32)
      · refine GoesW.step (fun _ k => pw_ifYes X333.here hx (pc' := 307) (hb hby at_301) ((if0 _ _).trans (teq hc301_349).1) (by decide) (by decide) _ k) ?_
        exact J334 kj1 (by rw [own_k3, if_pos hc301_349]; exact hkj1)
      · refine GoesW.step (fun _ k => pw_ifNo X333.here hx (hb hby at_301) ((if0 _ _).trans (feq hc301_349).1) _ (pw_iconst X333.here hx (v := (2 : Int32)) (hb hby at_304) rfl _ (pw_istore X333.here hx (l' := #[.val (.int i0), .val (.int i1), .val (.int i2), .val (.int i3), .val (.int i4), .val (.int i5), .val (.ref b1), .val (.int 5), .val (.ref b273), .val (.ref b306), .val (.ref r318), .val (.int 2), .unset]) (hb hby at_305) rfl _ k))) ?_
        exact J334 (2 : Int32) (by rw [own_k3, if_neg hc301_349])
     by_cases hc282_350 : (own_sep r_7) = (0 : Int32)
     · refine GoesW.step (fun _ k => pw_ifYes X330.here hx (pc' := 288) (hb hby at_282) ((if0 _ _).trans (teq hc282_350).1) (by decide) (by decide) _ k) ?_
       exact J331 kj0 (by rw [own_k2, if_pos hc282_350]; exact hkj0)
     · refine GoesW.step (fun _ k => pw_ifNo X330.here hx (hb hby at_282) ((if0 _ _).trans (feq hc282_350).1) _ (pw_iconst X330.here hx (v := (1 : Int32)) (hb hby at_285) rfl _ (pw_istore X330.here hx (l' := #[.val (.int i0), .val (.int i1), .val (.int i2), .val (.int i3), .val (.int i4), .val (.int i5), .val (.ref b1), .val (.int 5), .val (.ref b273), .val (.ref b306), .val (.ref r318), .val (.int 1), .unset]) (hb hby at_286) rfl _ k))) ?_
       exact J331 (1 : Int32) (by rw [own_k2, if_neg hc282_350])
    by_cases hc263_351 : (own_sep r_3) = (0 : Int32)
    · refine GoesW.step (fun _ k => pw_ifYes X327.here hx (pc' := 269) (hb hby at_263) ((if0 _ _).trans (teq hc263_351).1) (by decide) (by decide) _ k) ?_
      exact J328 (-1 : Int32) (by rw [own_k1, if_pos hc263_351]; exact rfl)
    · refine GoesW.step (fun _ k => pw_ifNo X327.here hx (hb hby at_263) ((if0 _ _).trans (feq hc263_351).1) _ (pw_iconst X327.here hx (v := (0 : Int32)) (hb hby at_266) rfl _ (pw_istore X327.here hx (l' := #[.val (.int i0), .val (.int i1), .val (.int i2), .val (.int i3), .val (.int i4), .val (.int i5), .val (.ref b1), .val (.int 5), .val (.ref b273), .val (.ref b306), .val (.ref r318), .val (.int 0), .unset]) (hb hby at_267) rfl _ k))) ?_
      exact J328 (0 : Int32) (by rw [own_k1, if_neg hc263_351])
set_option maxRecDepth 65536 in
set_option maxHeartbeats 40000000 in
theorem comes_1 {Post : Tables → Env → Array Value → State → Outcome → State → Prop} (hpost : ∀ tb e args s v u, (limb_1_1.after args s (.returned v) u = true ∧ limb_1_2.after args s (.returned v) u = true ∧ True) → ReturnedEndW s (.returned v) u (Jvm.fieldLocs frame_1_writes args s ++ Jvm.arrayLocs frame_1_arrays args s ++ Jvm.staticLocs frame_1_statics s) 24 2176 → Post tb e args s (.returned v) u) :
    ArmFor flags0 classFile x code maxLocals ret World_1 tables_1 room_1 Calls_1 rest_1 Pre_1 Post := by
  intro l hfl _ _ p e ha hc hk s m args below hf hA hF happ hP
  obtain ⟨hcalls, hrest, hpre⟩ := hP
  obtain ⟨-, -, -, hnamed, -, -, -, hat⟩ := (Spec.applies_iff hf).mp happ
  obtain ⟨hg, hn⟩ := and_e (Cond.before_iff.mp (show (Jvm.Cond.and given_1 narrow_1).before args s = true from hpre))
  obtain ⟨hcount, hg⟩ := and_e hg
  obtain ⟨w0, w1, w2, w3, w4, w5, rfl⟩ : ∃ w0 w1 w2 w3 w4 w5 : Value, args = #[w0, w1, w2, w3, w4, w5] := by
    have hs : args.size = 6 := by simpa [Cond.value, given_1] using hcount
    obtain ⟨L⟩ := args
    match L, hs with
    | [w0, w1, w2, w3, w4, w5], _ => exact ⟨w0, w1, w2, w3, w4, w5, rfl⟩
  have hw := fun d (hd : d ∈ tables_1) => atoms_spec (ws := Jvm.Cond.code x code maxLocals ret :: tables_1) hat d (List.mem_cons_of_mem _ hd)
  have hfit : Fit s := fun {y c} hc i hi => by
    obtain ⟨ha, rfl⟩ := Array.getElem?_eq_some_iff.mp hc
    have q := List.all_eq_true.mp ((Array.all_eq_true_iff_forall_mem.mp hF) _ (Array.getElem_mem ha)) i (List.mem_range.mpr hi)
    simpa [Array.getElem?_eq_getElem hi] using q
  obtain ⟨hi0, hg0⟩ := and_e hg
  obtain ⟨i0, ei0⟩ := is_v hi0
  obtain rfl : w0 = (.int i0) := Option.some.inj ei0
  obtain ⟨hi1, hg1⟩ := and_e hg0
  obtain ⟨i1, ei1⟩ := is_v hi1
  obtain rfl : w1 = (.int i1) := Option.some.inj ei1
  obtain ⟨hi2, hg2⟩ := and_e hg1
  obtain ⟨i2, ei2⟩ := is_v hi2
  obtain rfl : w2 = (.int i2) := Option.some.inj ei2
  obtain ⟨hi3, hg3⟩ := and_e hg2
  obtain ⟨i3, ei3⟩ := is_v hi3
  obtain rfl : w3 = (.int i3) := Option.some.inj ei3
  obtain ⟨hi4, hg4⟩ := and_e hg3
  obtain ⟨i4, ei4⟩ := is_v hi4
  obtain rfl : w4 = (.int i4) := Option.some.inj ei4
  obtain ⟨i5, ei5⟩ := is_v hg4
  obtain rfl : w5 = (.int i5) := Option.some.inj ei5
  obtain ⟨hsets, hown0⟩ := atoms_of _ (rest_1_c_eq ▸ (show rest_1_c.before _ s = true from hrest))
  obtain ⟨cs, ecs⟩ := is_v (Cond.before_iff.mp (hsets _ (List.mem_of_getElem? (i := 1) rfl)))
  have S_COMPACT_STRINGS := Sta.start ecs (Or.inl (hsets _ (List.mem_of_getElem? (i := 0) rfl)))
  have hcs : ¬ cs = (0 : Int32) := fun q => by
    have q2 := not_v (Cond.before_iff.mp (hsets _ (List.mem_of_getElem? (i := 2) rfl)))
    simp [Jvm.Cond.value, ecs, Term.int_eval, q] at q2
  have hcw : Jvm.Lit.compactW.before _ s = true := (hsets _ (List.mem_of_getElem? (i := 2) rfl))
  obtain ⟨fm, efm, hfm⟩ := own_isRef (Cond.before_iff.mp (hsets _ (List.mem_of_getElem? (i := 8) rfl)))
  have S_fm := Sta.start efm (Or.inl (hsets _ (List.mem_of_getElem? (i := 7) rfl)))
  have FS : OwnSt s cs fm := ⟨S_COMPACT_STRINGS, hcs, S_fm, hfm⟩
  have hCHs : ∀ p ∈ own_EL, Jvm.Lit.constHeld s p.1 p.2 := fun p hp => by
    simp only [own_EL, List.mem_cons, List.not_mem_nil, or_false] at hp
    rcases hp with rfl | rfl
    · exact hcalls.1 _ (List.mem_of_getElem? (i := 0) rfl)
    · exact hcalls.1 _ (List.mem_of_getElem? (i := 1) rfl)
  have hH : CHv s own_EL s.vm s.heap := CHv.start (own_EW hw) hCHs hcw (own_w23 hw) (own_w6 hw)
  obtain ⟨n, o, h1, h2, h3, _, L, rfl, ⟨rfl, N⟩, hq⟩ := rm0 l s _ hw tables_1 i0 i1 i2 i3 i4 i5 cs fm s.heap s.heap.size (Old.start s) FS p e ha hc hk s m _ below hf ((Spec.applies_iff_loose hf).mp happ).1 ⟨rfl, State.Warmed39.refl s, rfl, hH⟩ trivial
  refine ⟨n, _, h1, h2, h3, hpost _ _ _ _ _ _ ⟨Cond.after_iff.mpr rfl, Cond.after_iff.mpr (eq_i res_at (Term.int_eval (1)) rfl), trivial⟩ ⟨hq.1, hq.2.1, hq.2.2.1, (hq.2.2.2.sift fun y hy => Or.inr (N y hy)).mono (by decide) (by decide)⟩⟩
theorem main_1_1 : Claimed_1_1 := comes_1 fun _ _ _ _ _ _ h hF => ⟨h.1, hF⟩
theorem main_1_2 : Claimed_1_2 := comes_1 fun _ _ _ _ _ _ h hF => ⟨h.2.1, hF⟩
end Jvm.Pilot.@@N@@
namespace Jvm.Pilot.@@N@@
open Jvm Jvm.ClassFile Sem Op Lib Jvm.Free Jvm.Stand Jvm.Pilot.@@N@@.Jvm.D
/-! MADE BY PROGRAM (witnessworld.py) out of the Statement's table words and the real class files: 23 classes; the members and pool entries that the words name. The judged class is class 1, her method 4. -/
namespace start1
open Jvm.ClassFile
def u (s : String) : CpInfo := .utf8 (stringToUtf16 s)
/-- a pool by its gaps: so many unusable entries, then the entry; so many at the end -/
def gap : Nat → List CpInfo → List CpInfo
  | 0, r => r
  | n + 1, r => .unusable :: gap n r
def poolList (es : List (Nat × CpInfo)) (last : Nat) : List CpInfo := es.foldr (fun e r => gap e.1 (e.2 :: r)) (gap last [])
def pool (es : List (Nat × CpInfo)) (last : Nat) : Array CpInfo := ⟨poolList es last⟩
def fileOf (pool : Array CpInfo) (this : Nat) (attrs : Array Attribute := #[]) (ms : Array MethodInfo := #[]) (fl : Nat := 33) (sup : Nat := 0) (ifs : Array Nat := #[]) (fds : Array FieldInfo := #[]) : ClassFile where
  minorVersion := 0
  majorVersion := 65
  constantPool := pool
  accessFlags := fl
  thisClass := this
  superClass := sup
  interfaces := ifs
  fields := fds
  methods := ms
  attributes := attrs
def plain (name : String) (sup : Option ClassId) : Class where
  name := name
  kind := .ordinary
  loader := none
  accessFlags := 33
  super := sup
  interfaces := #[]
  cf := none
  fields := #[]
  methods := #[]
  instanceTypes := #[]
  staticTypes := #[]
  resolved := #[]
  callSites := []
  init := .initialized
  statics := none
  mirror := none

def pool0 : Array CpInfo := pool [(5, u "<init>"), (0, u "()V"), (1, .class_ 10), (1, u "java/lang/Object")] 113

def k0c0 : Code := { maxStack := 0, maxLocals := 1, code := object_method_1_code, exceptionTable := #[], attributes := #[] }
def k0m0 : Method := { name := "<init>", desc := "()V", sig := { parameters := [], returnType := none }, accessFlags := 1, code := some k0c0 }
/-- java/lang/Object -/
def k0 : Class := { plain "java/lang/Object" none with
  accessFlags := 33
  interfaces := #[]
  cf := some (fileOf pool0 8 #[] #[{ accessFlags := 1, nameIndex := 5, descriptorIndex := 6, attributes := #[] }] 33 0 #[] #[])
  fields := #[]
  methods := #[k0m0]
  instanceTypes := #[]
  staticTypes := #[]
  resolved := Array.replicate 124 none
  statics := none }

def pool1 : Array CpInfo := pool [(2, .class_ 4), (1, u "java/lang/Object"), (0, u "<init>"), (0, u "()V"), (0, .methodref 8 9), (0, .class_ 10), (0, .nameAndType 11 12), (0, u "java/lang/String"), (0, u "charAt"), (0, u "(I)C"), (0, .methodref 14 15), (0, .class_ 16), (0, .nameAndType 17 12), (0, u "com/example/partwright/partwright/reader/FormPartLastPathComponentPinLaw"), (0, u "ch"), (0, .methodref 8 19), (0, .nameAndType 5 20), (0, u "([C)V"), (0, .methodref 22 23), (0, .class_ 24), (0, .nameAndType 25 26), (0, u "com/example/partwright/partwright/reader/FormPart"), (0, u "lastPathComponent"), (0, u "(Ljava/lang/String;)Ljava/lang/String;"), (0, .methodref 14 28), (0, .nameAndType 29 30), (0, u "sep"), (0, u "(C)Z"), (0, .methodref 8 32), (0, .nameAndType 33 34), (0, u "length"), (0, u "()I"), (0, .methodref 14 36), (0, .nameAndType 37 38), (0, u "at"), (0, u "(Ljava/lang/String;II[CI)Z"), (3, u "law"), (0, u "(IIIIII)Z")] 4

def k1m0 : Method := { name := "<init>", desc := "()V", sig := { parameters := [], returnType := none }, accessFlags := 1, code := none }
def k1c1 : Code := { maxStack := 2, maxLocals := 2, code := method_2_code, exceptionTable := #[], attributes := #[] }
def k1m1 : Method := { name := "ch", desc := "(I)C", sig := { parameters := [.int], returnType := some .char }, accessFlags := 10, code := some k1c1 }
def k1c2 : Code := { maxStack := 2, maxLocals := 1, code := method_3_code, exceptionTable := #[], attributes := #[] }
def k1m2 : Method := { name := "sep", desc := "(C)Z", sig := { parameters := [.char], returnType := some .boolean }, accessFlags := 10, code := some k1c2 }
def k1c3 : Code := { maxStack := 4, maxLocals := 5, code := method_4_code, exceptionTable := #[], attributes := #[] }
def k1m3 : Method := { name := "at", desc := "(Ljava/lang/String;II[CI)Z", sig := { parameters := [(.object "java/lang/String"), .int, .int, (.array .char), .int], returnType := some .boolean }, accessFlags := 10, code := some k1c3 }
def k1c4 : Code := { maxStack := 6, maxLocals := 13, code := code, exceptionTable := #[], attributes := #[] }
def k1m4 : Method := { name := "law", desc := "(IIIIII)Z", sig := { parameters := [.int, .int, .int, .int, .int, .int], returnType := some .boolean }, accessFlags := 9, code := some k1c4 }
/-- com/example/partwright/partwright/reader/FormPartLastPathComponentPinLaw -/
def k1 : Class := { plain "com/example/partwright/partwright/reader/FormPartLastPathComponentPinLaw" (some 0) with
  accessFlags := 49
  interfaces := #[]
  cf := some (fileOf pool1 14 #[] #[{ accessFlags := 1, nameIndex := 5, descriptorIndex := 6, attributes := #[] }, { accessFlags := 10, nameIndex := 17, descriptorIndex := 12, attributes := #[] }, { accessFlags := 10, nameIndex := 29, descriptorIndex := 30, attributes := #[] }, { accessFlags := 10, nameIndex := 37, descriptorIndex := 38, attributes := #[] }, { accessFlags := 9, nameIndex := 42, descriptorIndex := 43, attributes := #[] }] 49 2 #[] #[])
  fields := #[]
  methods := #[k1m0, k1m1, k1m2, k1m3, k1m4]
  instanceTypes := #[]
  staticTypes := #[]
  resolved := Array.replicate 48 none
  statics := none }

def pool2 : Array CpInfo := pool [(1, .class_ 2), (0, u "java/io/Serializable"), (0, .class_ 4), (0, u "java/lang/Object")] 2

/-- java/io/Serializable -/
def k2 : Class := { plain "java/io/Serializable" (some 0) with
  accessFlags := 1537
  interfaces := #[]
  cf := some (fileOf pool2 1 #[] #[] 1537 3 #[] #[])
  fields := #[]
  methods := #[]
  instanceTypes := #[]
  staticTypes := #[]
  resolved := Array.replicate 7 none
  statics := none }

def pool3 : Array CpInfo := pool [(1, .class_ 2), (0, u "java/lang/Comparable"), (0, .class_ 4), (0, u "java/lang/Object")] 7

/-- java/lang/Comparable -/
def k3 : Class := { plain "java/lang/Comparable" (some 0) with
  accessFlags := 1537
  interfaces := #[]
  cf := some (fileOf pool3 1 #[] #[] 1537 3 #[] #[])
  fields := #[]
  methods := #[]
  instanceTypes := #[]
  staticTypes := #[]
  resolved := Array.replicate 12 none
  statics := none }

def pool4 : Array CpInfo := pool [(2, .class_ 4), (1, u "java/lang/CharSequence"), (42, .class_ 48), (0, u "java/lang/CharSequence$1CodePointIterator"), (10, .class_ 60), (0, u "java/lang/CharSequence$1CharIterator"), (5, .class_ 67), (0, u "java/lang/Object")] 63

/-- java/lang/CharSequence -/
def k4 : Class := { plain "java/lang/CharSequence" (some 0) with
  accessFlags := 1537
  interfaces := #[]
  cf := some (fileOf pool4 2 #[.nestMembers #[47, 59]] #[] 1537 66 #[] #[])
  fields := #[]
  methods := #[]
  instanceTypes := #[]
  staticTypes := #[]
  resolved := Array.replicate 131 none
  statics := none }

def pool5 : Array CpInfo := pool [(1, .class_ 2), (0, u "java/lang/constant/Constable"), (0, .class_ 4), (0, u "java/lang/Object")] 6

/-- java/lang/constant/Constable -/
def k5 : Class := { plain "java/lang/constant/Constable" (some 0) with
  accessFlags := 1537
  interfaces := #[]
  cf := some (fileOf pool5 1 #[] #[] 1537 3 #[] #[])
  fields := #[]
  methods := #[]
  instanceTypes := #[]
  staticTypes := #[]
  resolved := Array.replicate 11 none
  statics := none }

def pool6 : Array CpInfo := pool [(1, .class_ 2), (0, u "java/lang/constant/ConstantDesc"), (0, .class_ 4), (0, u "java/lang/Object")] 32

/-- java/lang/constant/ConstantDesc -/
def k6 : Class := { plain "java/lang/constant/ConstantDesc" (some 0) with
  accessFlags := 1537
  interfaces := #[]
  cf := some (fileOf pool6 1 #[] #[] 1537 3 #[] #[])
  fields := #[]
  methods := #[]
  instanceTypes := #[]
  staticTypes := #[]
  resolved := Array.replicate 37 none
  statics := none }

def pool7 : Array CpInfo := pool [(1, .methodref 2 3), (0, .class_ 4), (0, .nameAndType 5 6), (0, u "java/lang/Object"), (0, u "<init>"), (0, u "()V"), (0, .string 8), (0, u ""), (0, .fieldref 10 11), (0, .class_ 12), (0, .nameAndType 13 14), (0, u "java/lang/String"), (0, u "value"), (0, u "[B"), (0, .fieldref 10 16), (0, .nameAndType 17 18), (0, u "coder"), (0, u "B"), (2, u "hash"), (0, u "I"), (2, u "hashIsZero"), (0, u "Z"), (0, .methodref 10 28), (0, .nameAndType 5 29), (0, u "([CIILjava/lang/Void;)V"), (8, .fieldref 10 39), (0, .nameAndType 40 26), (0, u "COMPACT_STRINGS"), (1, .class_ 44), (1, u "java/lang/StringUTF16"), (0, u "compress"), (1, .methodref 42 48), (0, .nameAndType 49 50), (0, u "coderFromArrayLen"), (0, u "([BI)B"), (46, u "([BII)I"), (9, .class_ 109), (1, u "java/lang/StringLatin1"), (32, u "()Z"), (34, .methodref 42 178), (0, .nameAndType 45 179), (0, u "([CII)[B"), (31, u "([BB)V"), (122, u "()I"), (0, .methodref 10 336), (0, .nameAndType 17 337), (0, u "()B"), (25, u "([BI)C"), (27, u "(II)V"), (35, u "(I)C"), (64, .methodref 10 493), (0, .nameAndType 494 142), (0, u "isLatin1"), (0, .methodref 107 496), (0, .nameAndType 497 363), (0, u "charAt"), (3, u "checkIndex"), (3, .methodref 10 506), (0, .nameAndType 507 334), (0, u "length"), (5, u "checkFromToIndex"), (7, .methodref 10 522), (0, .nameAndType 523 524), (0, u "checkBoundsBeginEnd"), (0, u "(III)V"), (50, .class_ 576), (0, u "java/lang/CharSequence"), (22, u "CASE_INSENSITIVE_ORDER"), (0, u "Ljava/util/Comparator;"), (35, u "(II)I"), (4, .methodref 10 642), (0, .nameAndType 643 636), (0, u "lastIndexOf"), (0, .methodref 107 645), (0, .nameAndType 643 97), (35, .methodref 10 682), (0, .nameAndType 683 684), (0, u "substring"), (0, u "(II)Ljava/lang/String;"), (0, .methodref 107 686), (0, .nameAndType 687 688), (0, u "newString"), (0, u "([BII)Ljava/lang/String;"), (76, u "(I)I"), (126, u "(I)Ljava/lang/String;"), (117, u "([C)V"), (42, .fieldref 1054 1055), (0, .class_ 1056), (0, .nameAndType 1057 1058), (0, u "jdk/internal/util/Preconditions"), (0, u "SIOOBE_FORMATTER"), (0, u "Ljava/util/function/BiFunction;"), (0, .methodref 1054 1060), (0, .nameAndType 501 1061), (0, u "(IILjava/util/function/BiFunction;)I"), (0, .methodref 1054 1063), (0, .nameAndType 513 1064), (0, u "(IIILjava/util/function/BiFunction;)I"), (36, u "serialPersistentFields"), (0, u "[Ljava/io/ObjectStreamField;"), (0, .class_ 1104), (0, u "java/lang/String$CaseInsensitiveComparator"), (1, .class_ 1107), (0, u "java/io/Serializable"), (0, .class_ 1109), (0, u "java/lang/Comparable"), (0, .class_ 1111), (0, u "java/lang/constant/Constable"), (0, .class_ 1113), (0, u "java/lang/constant/ConstantDesc"), (2, u "serialVersionUID"), (0, u "J"), (3, u "REPL"), (0, u "C"), (2, u "LATIN1"), (1, u "UTF16")] 323

def k7m0 : Method := { name := "<init>", desc := "()V", sig := { parameters := [], returnType := none }, accessFlags := 1, code := none }
def k7c1 : Code := { maxStack := 5, maxLocals := 2, code := jdk_42_method_3_code, exceptionTable := #[], attributes := #[] }
def k7m1 : Method := { name := "<init>", desc := "([C)V", sig := { parameters := [(.array .char)], returnType := none }, accessFlags := 1, code := some k7c1 }
def k7c2 : Code := { maxStack := 2, maxLocals := 1, code := jdk_42_method_54_code, exceptionTable := #[], attributes := #[] }
def k7m2 : Method := { name := "length", desc := "()I", sig := { parameters := [], returnType := some .int }, accessFlags := 1, code := some k7c2 }
def k7c3 : Code := { maxStack := 2, maxLocals := 2, code := jdk_42_method_56_code, exceptionTable := #[], attributes := #[] }
def k7m3 : Method := { name := "charAt", desc := "(I)C", sig := { parameters := [.int], returnType := some .char }, accessFlags := 1, code := some k7c3 }
def k7c4 : Code := { maxStack := 4, maxLocals := 2, code := jdk_42_method_82_code, exceptionTable := #[], attributes := #[] }
def k7m4 : Method := { name := "lastIndexOf", desc := "(I)I", sig := { parameters := [.int], returnType := some .int }, accessFlags := 1, code := some k7c4 }
def k7c5 : Code := { maxStack := 3, maxLocals := 3, code := jdk_42_method_83_code, exceptionTable := #[], attributes := #[] }
def k7m5 : Method := { name := "lastIndexOf", desc := "(II)I", sig := { parameters := [.int, .int], returnType := some .int }, accessFlags := 1, code := some k7c5 }
def k7c6 : Code := { maxStack := 3, maxLocals := 2, code := jdk_42_method_91_code, exceptionTable := #[], attributes := #[] }
def k7m6 : Method := { name := "substring", desc := "(I)Ljava/lang/String;", sig := { parameters := [.int], returnType := some (.object "java/lang/String") }, accessFlags := 1, code := some k7c6 }
def k7c7 : Code := { maxStack := 3, maxLocals := 5, code := jdk_42_method_92_code, exceptionTable := #[], attributes := #[] }
def k7m7 : Method := { name := "substring", desc := "(II)Ljava/lang/String;", sig := { parameters := [.int, .int], returnType := some (.object "java/lang/String") }, accessFlags := 1, code := some k7c7 }
def k7c8 : Code := { maxStack := 4, maxLocals := 6, code := jdk_42_method_149_code, exceptionTable := #[], attributes := #[] }
def k7m8 : Method := { name := "<init>", desc := "([CIILjava/lang/Void;)V", sig := { parameters := [(.array .char), .int, .int, (.object "java/lang/Void")], returnType := none }, accessFlags := 2, code := some k7c8 }
def k7c9 : Code := { maxStack := 2, maxLocals := 3, code := jdk_42_method_151_code, exceptionTable := #[], attributes := #[] }
def k7m9 : Method := { name := "<init>", desc := "([BB)V", sig := { parameters := [(.array .byte), .byte], returnType := none }, accessFlags := 0, code := some k7c9 }
def k7c10 : Code := { maxStack := 1, maxLocals := 1, code := jdk_42_method_152_code, exceptionTable := #[], attributes := #[] }
def k7m10 : Method := { name := "coder", desc := "()B", sig := { parameters := [], returnType := some .byte }, accessFlags := 0, code := some k7c10 }
def k7c11 : Code := { maxStack := 1, maxLocals := 1, code := jdk_42_method_154_code, exceptionTable := #[], attributes := #[] }
def k7m11 : Method := { name := "isLatin1", desc := "()Z", sig := { parameters := [], returnType := some .boolean }, accessFlags := 0, code := some k7c11 }
def k7c12 : Code := { maxStack := 3, maxLocals := 2, code := jdk_42_method_155_code, exceptionTable := #[], attributes := #[] }
def k7m12 : Method := { name := "checkIndex", desc := "(II)V", sig := { parameters := [.int, .int], returnType := none }, accessFlags := 8, code := some k7c12 }
def k7c13 : Code := { maxStack := 4, maxLocals := 3, code := jdk_42_method_158_code, exceptionTable := #[], attributes := #[] }
def k7m13 : Method := { name := "checkBoundsBeginEnd", desc := "(III)V", sig := { parameters := [.int, .int, .int], returnType := none }, accessFlags := 8, code := some k7c13 }
/-- java/lang/String -/
def k7 : Class := { plain "java/lang/String" (some 0) with
  accessFlags := 49
  interfaces := #[2, 3, 4, 5, 6]
  cf := some (fileOf pool7 10 #[.nestMembers #[1103]] #[{ accessFlags := 1, nameIndex := 5, descriptorIndex := 6, attributes := #[] }, { accessFlags := 1, nameIndex := 5, descriptorIndex := 1010, attributes := #[] }, { accessFlags := 1, nameIndex := 507, descriptorIndex := 334, attributes := #[] }, { accessFlags := 1, nameIndex := 497, descriptorIndex := 427, attributes := #[] }, { accessFlags := 1, nameIndex := 643, descriptorIndex := 765, attributes := #[] }, { accessFlags := 1, nameIndex := 643, descriptorIndex := 636, attributes := #[] }, { accessFlags := 1, nameIndex := 683, descriptorIndex := 892, attributes := #[] }, { accessFlags := 1, nameIndex := 683, descriptorIndex := 684, attributes := #[] }, { accessFlags := 2, nameIndex := 5, descriptorIndex := 29, attributes := #[] }, { accessFlags := 0, nameIndex := 5, descriptorIndex := 211, attributes := #[] }, { accessFlags := 0, nameIndex := 17, descriptorIndex := 337, attributes := #[] }, { accessFlags := 0, nameIndex := 494, descriptorIndex := 142, attributes := #[] }, { accessFlags := 8, nameIndex := 501, descriptorIndex := 391, attributes := #[] }, { accessFlags := 8, nameIndex := 523, descriptorIndex := 524, attributes := #[] }] 49 2 #[1106, 1108, 575, 1110, 1112] #[{ accessFlags := 18, nameIndex := 13, descriptorIndex := 14, attributes := #[] }, { accessFlags := 18, nameIndex := 17, descriptorIndex := 18, attributes := #[] }, { accessFlags := 2, nameIndex := 21, descriptorIndex := 22, attributes := #[] }, { accessFlags := 2, nameIndex := 25, descriptorIndex := 26, attributes := #[] }, { accessFlags := 26, nameIndex := 1116, descriptorIndex := 1117, attributes := #[] }, { accessFlags := 24, nameIndex := 40, descriptorIndex := 26, attributes := #[] }, { accessFlags := 26, nameIndex := 1101, descriptorIndex := 1102, attributes := #[] }, { accessFlags := 26, nameIndex := 1121, descriptorIndex := 1122, attributes := #[] }, { accessFlags := 25, nameIndex := 599, descriptorIndex := 600, attributes := #[] }, { accessFlags := 24, nameIndex := 1125, descriptorIndex := 18, attributes := #[] }, { accessFlags := 24, nameIndex := 1127, descriptorIndex := 18, attributes := #[] }])
  fields := #[{ name := "value", type := (.array .byte), accessFlags := 18, slot := 0, constantValue := 0 }, { name := "coder", type := .byte, accessFlags := 18, slot := 1, constantValue := 0 }, { name := "hash", type := .int, accessFlags := 2, slot := 2, constantValue := 0 }, { name := "hashIsZero", type := .boolean, accessFlags := 2, slot := 3, constantValue := 0 }, { name := "serialVersionUID", type := .long, accessFlags := 26, slot := 0, constantValue := 0 }, { name := "COMPACT_STRINGS", type := .boolean, accessFlags := 24, slot := 1, constantValue := 0 }, { name := "serialPersistentFields", type := (.array (.object "java/io/ObjectStreamField")), accessFlags := 26, slot := 2, constantValue := 0 }, { name := "REPL", type := .char, accessFlags := 26, slot := 3, constantValue := 0 }, { name := "CASE_INSENSITIVE_ORDER", type := (.object "java/util/Comparator"), accessFlags := 25, slot := 4, constantValue := 0 }, { name := "LATIN1", type := .byte, accessFlags := 24, slot := 5, constantValue := 0 }, { name := "UTF16", type := .byte, accessFlags := 24, slot := 6, constantValue := 0 }]
  methods := #[k7m0, k7m1, k7m2, k7m3, k7m4, k7m5, k7m6, k7m7, k7m8, k7m9, k7m10, k7m11, k7m12, k7m13]
  instanceTypes := #[(.array .byte), .byte, .int, .boolean]
  staticTypes := #[.long, .boolean, (.array (.object "java/io/ObjectStreamField")), .char, (.object "java/util/Comparator"), .byte, .byte]
  resolved := Array.replicate 1451 none
  statics := some 0 }

def pool8 : Array CpInfo := pool [(6, .class_ 8), (1, u "java/lang/Object"), (0, u "<init>"), (0, u "()V"), (1, .class_ 14), (1, u "java/lang/StringUTF16"), (31, u "$assertionsDisabled"), (0, u "Z"), (13, u "HI_BYTE_SHIFT"), (0, u "I"), (2, u "LO_BYTE_SHIFT"), (49, .methodref 12 116), (0, .nameAndType 117 118), (0, u "compress"), (0, u "([CI[BII)I"), (3, u "([CII)[B"), (138, u "coderFromArrayLen"), (0, u "([BI)B"), (106, .class_ 371), (1, u "java/lang/StringUTF16$LinesSpliterator"), (58, u "MAX_LENGTH"), (196, .class_ 628), (0, u "java/lang/StringUTF16$CodePointsSpliterator"), (0, .class_ 630), (0, u "java/lang/StringUTF16$CharsSpliterator")] 4

def k8m0 : Method := { name := "<init>", desc := "()V", sig := { parameters := [], returnType := none }, accessFlags := 0, code := none }
def k8c1 : Code := { maxStack := 2, maxLocals := 2, code := jdk_52_method_15_code, exceptionTable := #[], attributes := #[] }
def k8m1 : Method := { name := "coderFromArrayLen", desc := "([BI)B", sig := { parameters := [(.array .byte), .int], returnType := some .byte }, accessFlags := 8, code := some k8c1 }
def k8c2 : Code := { maxStack := 5, maxLocals := 6, code := jdk_52_method_16_code, exceptionTable := #[], attributes := #[] }
def k8m2 : Method := { name := "compress", desc := "([CII)[B", sig := { parameters := [(.array .char), .int, .int], returnType := some (.array .byte) }, accessFlags := 9, code := some k8c2 }
def k8c3 : Code := { maxStack := 3, maxLocals := 7, code := jdk_52_method_21_code, exceptionTable := #[], attributes := #[] }
def k8m3 : Method := { name := "compress", desc := "([CI[BII)I", sig := { parameters := [(.array .char), .int, (.array .byte), .int, .int], returnType := some .int }, accessFlags := 9, code := some k8c3 }
/-- java/lang/StringUTF16 -/
def k8 : Class := { plain "java/lang/StringUTF16" (some 0) with
  accessFlags := 48
  interfaces := #[]
  cf := some (fileOf pool8 12 #[.nestMembers #[627, 629, 369]] #[{ accessFlags := 0, nameIndex := 9, descriptorIndex := 10, attributes := #[] }, { accessFlags := 8, nameIndex := 261, descriptorIndex := 262, attributes := #[] }, { accessFlags := 9, nameIndex := 117, descriptorIndex := 122, attributes := #[] }, { accessFlags := 9, nameIndex := 117, descriptorIndex := 118, attributes := #[] }] 48 6 #[] #[{ accessFlags := 26, nameIndex := 61, descriptorIndex := 62, attributes := #[] }, { accessFlags := 26, nameIndex := 65, descriptorIndex := 62, attributes := #[] }, { accessFlags := 24, nameIndex := 430, descriptorIndex := 62, attributes := #[] }, { accessFlags := 4120, nameIndex := 46, descriptorIndex := 47, attributes := #[] }])
  fields := #[{ name := "HI_BYTE_SHIFT", type := .int, accessFlags := 26, slot := 0, constantValue := 0 }, { name := "LO_BYTE_SHIFT", type := .int, accessFlags := 26, slot := 1, constantValue := 0 }, { name := "MAX_LENGTH", type := .int, accessFlags := 24, slot := 2, constantValue := 0 }, { name := "$assertionsDisabled", type := .boolean, accessFlags := 4120, slot := 3, constantValue := 0 }]
  methods := #[k8m0, k8m1, k8m2, k8m3]
  instanceTypes := #[]
  staticTypes := #[.int, .int, .int, .boolean]
  resolved := Array.replicate 635 none
  statics := none }

def pool9 : Array CpInfo := pool [(2, .class_ 4), (1, u "java/lang/Object"), (3, .class_ 10), (1, u "com/example/partwright/partwright/reader/FormPart"), (0, u "name"), (0, u "Ljava/lang/String;"), (8, u "filename"), (0, u "Ljava/util/Optional;"), (2, u "contentType"), (2, u "content"), (0, u "Ljava/io/InputStream;"), (0, .methodref 31 32), (0, .class_ 33), (0, .nameAndType 34 35), (0, u "java/lang/String"), (0, u "lastIndexOf"), (0, u "(I)I"), (0, .methodref 37 38), (0, .class_ 39), (0, .nameAndType 40 41), (0, u "java/lang/Math"), (0, u "max"), (0, u "(II)I"), (0, .methodref 31 43), (0, .nameAndType 44 45), (0, u "substring"), (0, u "(I)Ljava/lang/String;"), (9, u "lastPathComponent"), (0, u "(Ljava/lang/String;)Ljava/lang/String;")] 2

def k9c0 : Code := { maxStack := 3, maxLocals := 2, code := prog_7_method_6_code, exceptionTable := #[], attributes := #[] }
def k9m0 : Method := { name := "lastPathComponent", desc := "(Ljava/lang/String;)Ljava/lang/String;", sig := { parameters := [(.object "java/lang/String")], returnType := some (.object "java/lang/String") }, accessFlags := 9, code := some k9c0 }
/-- com/example/partwright/partwright/reader/FormPart -/
def k9 : Class := { plain "com/example/partwright/partwright/reader/FormPart" (some 0) with
  accessFlags := 49
  interfaces := #[]
  cf := some (fileOf pool9 8 #[] #[{ accessFlags := 9, nameIndex := 55, descriptorIndex := 56, attributes := #[] }] 49 2 #[] #[{ accessFlags := 18, nameIndex := 11, descriptorIndex := 12, attributes := #[] }, { accessFlags := 18, nameIndex := 21, descriptorIndex := 22, attributes := #[] }, { accessFlags := 18, nameIndex := 25, descriptorIndex := 22, attributes := #[] }, { accessFlags := 18, nameIndex := 28, descriptorIndex := 29, attributes := #[] }])
  fields := #[{ name := "name", type := (.object "java/lang/String"), accessFlags := 18, slot := 0, constantValue := 0 }, { name := "filename", type := (.object "java/util/Optional"), accessFlags := 18, slot := 1, constantValue := 0 }, { name := "contentType", type := (.object "java/util/Optional"), accessFlags := 18, slot := 2, constantValue := 0 }, { name := "content", type := (.object "java/io/InputStream"), accessFlags := 18, slot := 3, constantValue := 0 }]
  methods := #[k9m0]
  instanceTypes := #[(.object "java/lang/String"), (.object "java/util/Optional"), (.object "java/util/Optional"), (.object "java/io/InputStream")]
  staticTypes := #[]
  resolved := Array.replicate 59 none
  statics := none }

def pool10 : Array CpInfo := pool [(1, .class_ 2), (0, u "java/lang/String"), (1, .class_ 6), (1, u "java/lang/Object"), (0, u "<init>"), (0, u "()V"), (0, .methodref 1 10), (0, .nameAndType 11 12), (0, u "checkIndex"), (0, u "(II)V"), (1, .class_ 16), (1, u "java/lang/StringLatin1"), (21, .methodref 39 40), (0, .class_ 41), (0, .nameAndType 42 43), (0, u "java/lang/Math"), (0, u "min"), (0, u "(II)I"), (9, u "([BI)C"), (34, .methodref 14 89), (0, .nameAndType 90 91), (0, u "canEncode"), (0, u "(I)Z"), (20, .methodref 1 113), (0, .nameAndType 7 114), (0, u "([BB)V"), (6, u "$assertionsDisabled"), (0, u "Z"), (8, .class_ 133), (1, u "java/util/Arrays"), (17, .string 152), (0, u ""), (43, u "newString"), (0, u "([BII)Ljava/lang/String;"), (23, .class_ 223), (1, u "java/lang/StringLatin1$LinesSpliterator"), (8, .methodref 131 233), (0, .nameAndType 234 235), (0, u "copyOfRange"), (0, u "([BII)[B"), (16, u "charAt"), (8, u "([BII)I"), (47, u "lastIndexOf"), (80, .class_ 391), (0, u "java/lang/StringLatin1$CharsSpliterator")] 3

def k10m0 : Method := { name := "<init>", desc := "()V", sig := { parameters := [], returnType := none }, accessFlags := 0, code := none }
def k10c1 : Code := { maxStack := 2, maxLocals := 2, code := jdk_43_method_2_code, exceptionTable := #[], attributes := #[] }
def k10m1 : Method := { name := "charAt", desc := "([BI)C", sig := { parameters := [(.array .byte), .int], returnType := some .char }, accessFlags := 9, code := some k10c1 }
def k10c2 : Code := { maxStack := 2, maxLocals := 1, code := jdk_43_method_4_code, exceptionTable := #[], attributes := #[] }
def k10m2 : Method := { name := "canEncode", desc := "(I)Z", sig := { parameters := [.int], returnType := some .boolean }, accessFlags := 9, code := some k10c2 }
def k10c3 : Code := { maxStack := 3, maxLocals := 4, code := jdk_43_method_27_code, exceptionTable := #[], attributes := #[] }
def k10m3 : Method := { name := "lastIndexOf", desc := "([BII)I", sig := { parameters := [(.array .byte), .int, .int], returnType := some .int }, accessFlags := 9, code := some k10c3 }
def k10c4 : Code := { maxStack := 6, maxLocals := 3, code := jdk_43_method_47_code, exceptionTable := #[], attributes := #[] }
def k10m4 : Method := { name := "newString", desc := "([BII)Ljava/lang/String;", sig := { parameters := [(.array .byte), .int, .int], returnType := some (.object "java/lang/String") }, accessFlags := 9, code := some k10c4 }
/-- java/lang/StringLatin1 -/
def k10 : Class := { plain "java/lang/StringLatin1" (some 0) with
  accessFlags := 48
  interfaces := #[]
  cf := some (fileOf pool10 14 #[.nestMembers #[390, 221]] #[{ accessFlags := 0, nameIndex := 7, descriptorIndex := 8, attributes := #[] }, { accessFlags := 9, nameIndex := 252, descriptorIndex := 53, attributes := #[] }, { accessFlags := 9, nameIndex := 90, descriptorIndex := 91, attributes := #[] }, { accessFlags := 9, nameIndex := 309, descriptorIndex := 261, attributes := #[] }, { accessFlags := 9, nameIndex := 196, descriptorIndex := 197, attributes := #[] }] 48 4 #[] #[{ accessFlags := 4120, nameIndex := 121, descriptorIndex := 122, attributes := #[] }])
  fields := #[{ name := "$assertionsDisabled", type := .boolean, accessFlags := 4120, slot := 0, constantValue := 0 }]
  methods := #[k10m0, k10m1, k10m2, k10m3, k10m4]
  instanceTypes := #[]
  staticTypes := #[.boolean]
  resolved := Array.replicate 395 none
  statics := none }

def pool11 : Array CpInfo := pool [(1, .class_ 2), (0, u "java/lang/Math"), (1, .class_ 6), (1, u "java/lang/Object"), (0, u "<init>"), (0, u "()V"), (89, .class_ 100), (1, u "java/lang/Math$RandomNumberGeneratorHolder"), (71, u "negativeZeroFloatBits"), (0, u "J"), (2, u "negativeZeroDoubleBits"), (21, u "max"), (2, u "min"), (43, u "$assertionsDisabled"), (0, u "Z"), (88, u "(II)I"), (2, u "twoToTheDoubleScaleDown"), (0, u "D"), (4, u "twoToTheDoubleScaleUp"), (9, u "E"), (3, u "PI"), (2, u "TAU"), (2, u "DEGREES_TO_RADIANS"), (0, u "RADIANS_TO_DEGREES")] 94

def k11m0 : Method := { name := "<init>", desc := "()V", sig := { parameters := [], returnType := none }, accessFlags := 2, code := none }
def k11c1 : Code := { maxStack := 2, maxLocals := 2, code := jdk_29_method_65_code, exceptionTable := #[], attributes := #[] }
def k11m1 : Method := { name := "max", desc := "(II)I", sig := { parameters := [.int, .int], returnType := some .int }, accessFlags := 9, code := some k11c1 }
def k11c2 : Code := { maxStack := 2, maxLocals := 2, code := jdk_29_method_69_code, exceptionTable := #[], attributes := #[] }
def k11m2 : Method := { name := "min", desc := "(II)I", sig := { parameters := [.int, .int], returnType := some .int }, accessFlags := 9, code := some k11c2 }
/-- java/lang/Math -/
def k11 : Class := { plain "java/lang/Math" (some 0) with
  accessFlags := 49
  interfaces := #[]
  cf := some (fileOf pool11 1 #[.nestMembers #[98]] #[{ accessFlags := 2, nameIndex := 7, descriptorIndex := 8, attributes := #[] }, { accessFlags := 9, nameIndex := 198, descriptorIndex := 335, attributes := #[] }, { accessFlags := 9, nameIndex := 201, descriptorIndex := 335, attributes := #[] }] 49 4 #[] #[{ accessFlags := 25, nameIndex := 354, descriptorIndex := 339, attributes := #[] }, { accessFlags := 25, nameIndex := 358, descriptorIndex := 339, attributes := #[] }, { accessFlags := 25, nameIndex := 361, descriptorIndex := 339, attributes := #[] }, { accessFlags := 26, nameIndex := 364, descriptorIndex := 339, attributes := #[] }, { accessFlags := 26, nameIndex := 365, descriptorIndex := 339, attributes := #[] }, { accessFlags := 26, nameIndex := 172, descriptorIndex := 173, attributes := #[] }, { accessFlags := 26, nameIndex := 176, descriptorIndex := 173, attributes := #[] }, { accessFlags := 8, nameIndex := 344, descriptorIndex := 339, attributes := #[] }, { accessFlags := 8, nameIndex := 338, descriptorIndex := 339, attributes := #[] }, { accessFlags := 4120, nameIndex := 245, descriptorIndex := 246, attributes := #[] }])
  fields := #[{ name := "E", type := .double, accessFlags := 25, slot := 0, constantValue := 0 }, { name := "PI", type := .double, accessFlags := 25, slot := 1, constantValue := 0 }, { name := "TAU", type := .double, accessFlags := 25, slot := 2, constantValue := 0 }, { name := "DEGREES_TO_RADIANS", type := .double, accessFlags := 26, slot := 3, constantValue := 0 }, { name := "RADIANS_TO_DEGREES", type := .double, accessFlags := 26, slot := 4, constantValue := 0 }, { name := "negativeZeroFloatBits", type := .long, accessFlags := 26, slot := 5, constantValue := 0 }, { name := "negativeZeroDoubleBits", type := .long, accessFlags := 26, slot := 6, constantValue := 0 }, { name := "twoToTheDoubleScaleUp", type := .double, accessFlags := 8, slot := 7, constantValue := 0 }, { name := "twoToTheDoubleScaleDown", type := .double, accessFlags := 8, slot := 8, constantValue := 0 }, { name := "$assertionsDisabled", type := .boolean, accessFlags := 4120, slot := 9, constantValue := 0 }]
  methods := #[k11m0, k11m1, k11m2]
  instanceTypes := #[]
  staticTypes := #[.double, .double, .double, .double, .double, .long, .long, .double, .double, .boolean]
  resolved := Array.replicate 460 none
  statics := none }

def pool12 : Array CpInfo := pool [(2, .class_ 4), (1, u "java/lang/Object"), (0, u "<init>"), (0, u "()V"), (17, .class_ 26), (1, u "jdk/internal/util/Preconditions"), (6, u "checkIndex"), (13, u "checkFromToIndex"), (7, .class_ 56), (0, u "jdk/internal/util/Preconditions$4"), (57, .class_ 115), (0, u "jdk/internal/util/Preconditions$1"), (7, u "SIOOBE_FORMATTER"), (0, u "Ljava/util/function/BiFunction;"), (0, .class_ 126), (0, u "jdk/internal/util/Preconditions$2"), (3, u "AIOOBE_FORMATTER"), (0, .class_ 132), (0, u "jdk/internal/util/Preconditions$3"), (3, u "IOOBE_FORMATTER"), (41, u "(IILjava/util/function/BiFunction;)I"), (4, u "(IIILjava/util/function/BiFunction;)I")] 10

def k12m0 : Method := { name := "<init>", desc := "()V", sig := { parameters := [], returnType := none }, accessFlags := 1, code := none }
def k12c1 : Code := { maxStack := 3, maxLocals := 3, code := jdk_41_method_11_code, exceptionTable := #[], attributes := #[] }
def k12m1 : Method := { name := "checkIndex", desc := "(IILjava/util/function/BiFunction;)I", sig := { parameters := [.int, .int, (.object "java/util/function/BiFunction")], returnType := some .int }, accessFlags := 9, code := some k12c1 }
def k12c2 : Code := { maxStack := 4, maxLocals := 4, code := jdk_41_method_12_code, exceptionTable := #[], attributes := #[] }
def k12m2 : Method := { name := "checkFromToIndex", desc := "(IIILjava/util/function/BiFunction;)I", sig := { parameters := [.int, .int, .int, (.object "java/util/function/BiFunction")], returnType := some .int }, accessFlags := 9, code := some k12c2 }
/-- jdk/internal/util/Preconditions -/
def k12 : Class := { plain "jdk/internal/util/Preconditions" (some 0) with
  accessFlags := 33
  interfaces := #[]
  cf := some (fileOf pool12 24 #[.nestMembers #[55, 131, 125, 114]] #[{ accessFlags := 1, nameIndex := 5, descriptorIndex := 6, attributes := #[] }, { accessFlags := 9, nameIndex := 33, descriptorIndex := 178, attributes := #[] }, { accessFlags := 9, nameIndex := 47, descriptorIndex := 183, attributes := #[] }] 33 2 #[] #[{ accessFlags := 25, nameIndex := 123, descriptorIndex := 124, attributes := #[] }, { accessFlags := 25, nameIndex := 130, descriptorIndex := 124, attributes := #[] }, { accessFlags := 25, nameIndex := 136, descriptorIndex := 124, attributes := #[] }])
  fields := #[{ name := "SIOOBE_FORMATTER", type := (.object "java/util/function/BiFunction"), accessFlags := 25, slot := 0, constantValue := 0 }, { name := "AIOOBE_FORMATTER", type := (.object "java/util/function/BiFunction"), accessFlags := 25, slot := 1, constantValue := 0 }, { name := "IOOBE_FORMATTER", type := (.object "java/util/function/BiFunction"), accessFlags := 25, slot := 2, constantValue := 0 }]
  methods := #[k12m0, k12m1, k12m2]
  instanceTypes := #[]
  staticTypes := #[(.object "java/util/function/BiFunction"), (.object "java/util/function/BiFunction"), (.object "java/util/function/BiFunction")]
  resolved := Array.replicate 194 none
  statics := some 1 }

def pool13 : Array CpInfo := pool [(2, .class_ 4), (1, u "java/lang/Object"), (0, u "<init>"), (0, u "()V"), (7, .class_ 16), (1, u "java/util/Arrays"), (57, .class_ 76), (1, u "java/util/Arrays$NaturalOrder"), (36, .class_ 115), (1, u "java/util/Arrays$LegacyMergeSort"), (1, u "Z"), (21, u "copyOfRange"), (10, .methodref 151 152), (0, .class_ 153), (0, .nameAndType 154 155), (0, u "java/lang/System"), (0, u "arraycopy"), (0, u "(Ljava/lang/Object;ILjava/lang/Object;II)V"), (148, .methodref 305 306), (0, .class_ 307), (0, .nameAndType 308 309), (0, u "java/lang/Math"), (0, u "min"), (0, u "(II)I"), (29, .methodref 14 340), (0, .nameAndType 341 342), (0, u "copyOfRangeByte"), (0, u "([BII)[B"), (0, .methodref 14 344), (0, .nameAndType 345 346), (0, u "checkLength"), (0, u "(II)V"), (28, .class_ 376), (0, u "java/util/Arrays$ArrayList"), (68, u "$assertionsDisabled"), (269, u "MIN_ARRAY_SORT_GRAN"), (0, u "I"), (2, u "INSERTIONSORT_THRESHOLD"), (255, .class_ 976), (0, u "java/util/Arrays$ArrayItr")] 52

def k13m0 : Method := { name := "<init>", desc := "()V", sig := { parameters := [], returnType := none }, accessFlags := 2, code := none }
def k13c1 : Code := { maxStack := 4, maxLocals := 2, code := jdk_65_method_131_code, exceptionTable := #[], attributes := #[] }
def k13m1 : Method := { name := "checkLength", desc := "(II)V", sig := { parameters := [.int, .int], returnType := none }, accessFlags := 10, code := some k13c1 }
def k13c2 : Code := { maxStack := 3, maxLocals := 3, code := jdk_65_method_132_code, exceptionTable := #[], attributes := #[] }
def k13m2 : Method := { name := "copyOfRange", desc := "([BII)[B", sig := { parameters := [(.array .byte), .int, .int], returnType := some (.array .byte) }, accessFlags := 9, code := some k13c2 }
def k13c3 : Code := { maxStack := 6, maxLocals := 5, code := jdk_65_method_133_code, exceptionTable := #[], attributes := #[] }
def k13m3 : Method := { name := "copyOfRangeByte", desc := "([BII)[B", sig := { parameters := [(.array .byte), .int, .int], returnType := some (.array .byte) }, accessFlags := 10, code := some k13c3 }
/-- java/util/Arrays -/
def k13 : Class := { plain "java/util/Arrays" (some 0) with
  accessFlags := 49
  interfaces := #[]
  cf := some (fileOf pool13 14 #[.nestMembers #[975, 375, 113, 74]] #[{ accessFlags := 2, nameIndex := 5, descriptorIndex := 6, attributes := #[] }, { accessFlags := 10, nameIndex := 345, descriptorIndex := 346, attributes := #[] }, { accessFlags := 9, nameIndex := 139, descriptorIndex := 342, attributes := #[] }, { accessFlags := 10, nameIndex := 341, descriptorIndex := 342, attributes := #[] }] 49 2 #[] #[{ accessFlags := 26, nameIndex := 715, descriptorIndex := 716, attributes := #[] }, { accessFlags := 26, nameIndex := 719, descriptorIndex := 716, attributes := #[] }, { accessFlags := 4120, nameIndex := 445, descriptorIndex := 117, attributes := #[] }])
  fields := #[{ name := "MIN_ARRAY_SORT_GRAN", type := .int, accessFlags := 26, slot := 0, constantValue := 0 }, { name := "INSERTIONSORT_THRESHOLD", type := .int, accessFlags := 26, slot := 1, constantValue := 0 }, { name := "$assertionsDisabled", type := .boolean, accessFlags := 4120, slot := 2, constantValue := 0 }]
  methods := #[k13m0, k13m1, k13m2, k13m3]
  instanceTypes := #[]
  staticTypes := #[.int, .int, .boolean]
  resolved := Array.replicate 1029 none
  statics := none }

def pool14 : Array CpInfo := pool [(2, .class_ 4), (1, u "java/lang/Object"), (0, u "<init>"), (0, u "()V"), (1, .class_ 10), (1, u "java/lang/System"), (0, u "allowSecurityManager"), (0, u "I"), (16, u "cons"), (0, u "Ljava/io/Console;"), (77, .class_ 110), (1, u "java/lang/System$CallersHolder"), (43, u "initialErrStream"), (0, u "Ljava/io/PrintStream;"), (19, u "security"), (0, u "Ljava/lang/SecurityManager;"), (31, .class_ 209), (0, u "java/lang/System$1"), (7, u "props"), (0, u "Ljava/util/Properties;"), (2, u "lineSeparator"), (0, u "Ljava/lang/String;"), (96, .class_ 321), (1, u "java/lang/System$LoggerFinder"), (5, .class_ 328), (0, u "java/lang/System$Logger"), (67, u "err"), (2, u "out"), (91, u "notSupportedJnuEncoding"), (15, u "in"), (17, u "initialIn"), (0, u "Ljava/io/InputStream;"), (35, u "bootLayer"), (0, u "Ljava/lang/ModuleLayer;"), (99, .class_ 664), (0, u "java/lang/System$2"), (9, u "NEVER"), (2, u "MAYBE"), (49, u "arraycopy"), (0, u "(Ljava/lang/Object;ILjava/lang/Object;II)V"), (72, .class_ 802), (0, u "java/lang/System$Logger$Level")] 31

def k14m0 : Method := { name := "<init>", desc := "()V", sig := { parameters := [], returnType := none }, accessFlags := 2, code := none }
def k14m1 : Method := { name := "arraycopy", desc := "(Ljava/lang/Object;ILjava/lang/Object;II)V", sig := { parameters := [(.object "java/lang/Object"), .int, (.object "java/lang/Object"), .int, .int], returnType := none }, accessFlags := 265, code := none }
/-- java/lang/System -/
def k14 : Class := { plain "java/lang/System" (some 0) with
  accessFlags := 49
  interfaces := #[]
  cf := some (fileOf pool14 8 #[.nestMembers #[319, 327, 801, 108, 663, 208]] #[{ accessFlags := 2, nameIndex := 5, descriptorIndex := 6, attributes := #[] }, { accessFlags := 265, nameIndex := 727, descriptorIndex := 728, attributes := #[] }] 49 2 #[] #[{ accessFlags := 25, nameIndex := 507, descriptorIndex := 526, attributes := #[] }, { accessFlags := 25, nameIndex := 399, descriptorIndex := 155, attributes := #[] }, { accessFlags := 25, nameIndex := 396, descriptorIndex := 155, attributes := #[] }, { accessFlags := 10, nameIndex := 525, descriptorIndex := 526, attributes := #[] }, { accessFlags := 26, nameIndex := 674, descriptorIndex := 12, attributes := #[] }, { accessFlags := 26, nameIndex := 677, descriptorIndex := 12, attributes := #[] }, { accessFlags := 10, nameIndex := 11, descriptorIndex := 12, attributes := #[] }, { accessFlags := 74, nameIndex := 175, descriptorIndex := 176, attributes := #[] }, { accessFlags := 10, nameIndex := 491, descriptorIndex := 222, attributes := #[] }, { accessFlags := 74, nameIndex := 29, descriptorIndex := 30, attributes := #[] }, { accessFlags := 74, nameIndex := 154, descriptorIndex := 155, attributes := #[] }, { accessFlags := 10, nameIndex := 217, descriptorIndex := 218, attributes := #[] }, { accessFlags := 10, nameIndex := 221, descriptorIndex := 222, attributes := #[] }, { accessFlags := 8, nameIndex := 562, descriptorIndex := 563, attributes := #[] }])
  fields := #[{ name := "in", type := (.object "java/io/InputStream"), accessFlags := 25, slot := 0, constantValue := 0 }, { name := "out", type := (.object "java/io/PrintStream"), accessFlags := 25, slot := 1, constantValue := 0 }, { name := "err", type := (.object "java/io/PrintStream"), accessFlags := 25, slot := 2, constantValue := 0 }, { name := "initialIn", type := (.object "java/io/InputStream"), accessFlags := 10, slot := 3, constantValue := 0 }, { name := "NEVER", type := .int, accessFlags := 26, slot := 4, constantValue := 0 }, { name := "MAYBE", type := .int, accessFlags := 26, slot := 5, constantValue := 0 }, { name := "allowSecurityManager", type := .int, accessFlags := 10, slot := 6, constantValue := 0 }, { name := "security", type := (.object "java/lang/SecurityManager"), accessFlags := 74, slot := 7, constantValue := 0 }, { name := "notSupportedJnuEncoding", type := (.object "java/lang/String"), accessFlags := 10, slot := 8, constantValue := 0 }, { name := "cons", type := (.object "java/io/Console"), accessFlags := 74, slot := 9, constantValue := 0 }, { name := "initialErrStream", type := (.object "java/io/PrintStream"), accessFlags := 74, slot := 10, constantValue := 0 }, { name := "props", type := (.object "java/util/Properties"), accessFlags := 10, slot := 11, constantValue := 0 }, { name := "lineSeparator", type := (.object "java/lang/String"), accessFlags := 10, slot := 12, constantValue := 0 }, { name := "bootLayer", type := (.object "java/lang/ModuleLayer"), accessFlags := 8, slot := 13, constantValue := 0 }]
  methods := #[k14m0, k14m1]
  instanceTypes := #[]
  staticTypes := #[(.object "java/io/InputStream"), (.object "java/io/PrintStream"), (.object "java/io/PrintStream"), (.object "java/io/InputStream"), .int, .int, .int, (.object "java/lang/SecurityManager"), (.object "java/lang/String"), (.object "java/io/Console"), (.object "java/io/PrintStream"), (.object "java/util/Properties"), (.object "java/lang/String"), (.object "java/lang/ModuleLayer")]
  resolved := Array.replicate 834 none
  statics := none }

def pool15 : Array CpInfo := pool [(9, u "<init>"), (6, .class_ 18), (1, u "java/lang/Object"), (0, u "()V"), (1, .class_ 23), (1, u "jdk/internal/util/ArraysSupport"), (0, u "LOG2_ARRAY_LONG_INDEX_SCALE"), (0, u "I"), (2, u "U"), (0, u "Ljdk/internal/misc/Unsafe;"), (8, u "BIG_ENDIAN"), (0, u "Z"), (8, u "LOG2_BYTE_BIT_SIZE"), (4, u "LOG2_ARRAY_INT_INDEX_SCALE"), (54, u "JLA"), (0, u "Ljdk/internal/access/JavaLangAccess;"), (11, u "LOG2_ARRAY_BOOLEAN_INDEX_SCALE"), (9, u "LOG2_ARRAY_BYTE_INDEX_SCALE"), (5, u "LOG2_ARRAY_CHAR_INDEX_SCALE"), (5, u "LOG2_ARRAY_SHORT_INDEX_SCALE"), (18, u "LOG2_ARRAY_FLOAT_INDEX_SCALE"), (24, u "LOG2_ARRAY_DOUBLE_INDEX_SCALE"), (89, u "T_BOOLEAN"), (2, u "T_CHAR"), (1, u "T_FLOAT"), (1, u "T_DOUBLE"), (1, u "T_BYTE"), (1, u "T_SHORT"), (1, u "T_INT"), (1, u "T_LONG"), (1, u "SOFT_MAX_ARRAY_LENGTH")] 83

def k15m0 : Method := { name := "<init>", desc := "()V", sig := { parameters := [], returnType := none }, accessFlags := 2, code := none }
/-- jdk/internal/util/ArraysSupport -/
def k15 : Class := { plain "jdk/internal/util/ArraysSupport" (some 0) with
  accessFlags := 33
  interfaces := #[]
  cf := some (fileOf pool15 21 #[] #[{ accessFlags := 2, nameIndex := 9, descriptorIndex := 19, attributes := #[] }] 33 16 #[] #[{ accessFlags := 24, nameIndex := 28, descriptorIndex := 29, attributes := #[] }, { accessFlags := 26, nameIndex := 38, descriptorIndex := 39, attributes := #[] }, { accessFlags := 25, nameIndex := 121, descriptorIndex := 25, attributes := #[] }, { accessFlags := 25, nameIndex := 131, descriptorIndex := 25, attributes := #[] }, { accessFlags := 25, nameIndex := 137, descriptorIndex := 25, attributes := #[] }, { accessFlags := 25, nameIndex := 143, descriptorIndex := 25, attributes := #[] }, { accessFlags := 25, nameIndex := 53, descriptorIndex := 25, attributes := #[] }, { accessFlags := 25, nameIndex := 24, descriptorIndex := 25, attributes := #[] }, { accessFlags := 25, nameIndex := 162, descriptorIndex := 25, attributes := #[] }, { accessFlags := 25, nameIndex := 187, descriptorIndex := 25, attributes := #[] }, { accessFlags := 26, nameIndex := 48, descriptorIndex := 25, attributes := #[] }, { accessFlags := 25, nameIndex := 277, descriptorIndex := 25, attributes := #[] }, { accessFlags := 25, nameIndex := 280, descriptorIndex := 25, attributes := #[] }, { accessFlags := 25, nameIndex := 282, descriptorIndex := 25, attributes := #[] }, { accessFlags := 25, nameIndex := 284, descriptorIndex := 25, attributes := #[] }, { accessFlags := 25, nameIndex := 286, descriptorIndex := 25, attributes := #[] }, { accessFlags := 25, nameIndex := 288, descriptorIndex := 25, attributes := #[] }, { accessFlags := 25, nameIndex := 290, descriptorIndex := 25, attributes := #[] }, { accessFlags := 25, nameIndex := 292, descriptorIndex := 25, attributes := #[] }, { accessFlags := 26, nameIndex := 108, descriptorIndex := 109, attributes := #[] }, { accessFlags := 25, nameIndex := 294, descriptorIndex := 25, attributes := #[] }])
  fields := #[{ name := "U", type := (.object "jdk/internal/misc/Unsafe"), accessFlags := 24, slot := 0, constantValue := 0 }, { name := "BIG_ENDIAN", type := .boolean, accessFlags := 26, slot := 1, constantValue := 0 }, { name := "LOG2_ARRAY_BOOLEAN_INDEX_SCALE", type := .int, accessFlags := 25, slot := 2, constantValue := 0 }, { name := "LOG2_ARRAY_BYTE_INDEX_SCALE", type := .int, accessFlags := 25, slot := 3, constantValue := 0 }, { name := "LOG2_ARRAY_CHAR_INDEX_SCALE", type := .int, accessFlags := 25, slot := 4, constantValue := 0 }, { name := "LOG2_ARRAY_SHORT_INDEX_SCALE", type := .int, accessFlags := 25, slot := 5, constantValue := 0 }, { name := "LOG2_ARRAY_INT_INDEX_SCALE", type := .int, accessFlags := 25, slot := 6, constantValue := 0 }, { name := "LOG2_ARRAY_LONG_INDEX_SCALE", type := .int, accessFlags := 25, slot := 7, constantValue := 0 }, { name := "LOG2_ARRAY_FLOAT_INDEX_SCALE", type := .int, accessFlags := 25, slot := 8, constantValue := 0 }, { name := "LOG2_ARRAY_DOUBLE_INDEX_SCALE", type := .int, accessFlags := 25, slot := 9, constantValue := 0 }, { name := "LOG2_BYTE_BIT_SIZE", type := .int, accessFlags := 26, slot := 10, constantValue := 0 }, { name := "T_BOOLEAN", type := .int, accessFlags := 25, slot := 11, constantValue := 0 }, { name := "T_CHAR", type := .int, accessFlags := 25, slot := 12, constantValue := 0 }, { name := "T_FLOAT", type := .int, accessFlags := 25, slot := 13, constantValue := 0 }, { name := "T_DOUBLE", type := .int, accessFlags := 25, slot := 14, constantValue := 0 }, { name := "T_BYTE", type := .int, accessFlags := 25, slot := 15, constantValue := 0 }, { name := "T_SHORT", type := .int, accessFlags := 25, slot := 16, constantValue := 0 }, { name := "T_INT", type := .int, accessFlags := 25, slot := 17, constantValue := 0 }, { name := "T_LONG", type := .int, accessFlags := 25, slot := 18, constantValue := 0 }, { name := "JLA", type := (.object "jdk/internal/access/JavaLangAccess"), accessFlags := 26, slot := 19, constantValue := 0 }, { name := "SOFT_MAX_ARRAY_LENGTH", type := .int, accessFlags := 25, slot := 20, constantValue := 0 }]
  methods := #[k15m0]
  instanceTypes := #[]
  staticTypes := #[(.object "jdk/internal/misc/Unsafe"), .boolean, .int, .int, .int, .int, .int, .int, .int, .int, .int, .int, .int, .int, .int, .int, .int, .int, .int, (.object "jdk/internal/access/JavaLangAccess"), .int]
  resolved := Array.replicate 378 none
  statics := none }

def pool16 : Array CpInfo := pool [(1, u "java/lang/Cloneable"), (0, .class_ 1), (0, u "java/lang/Object"), (0, .class_ 3)] 3

/-- java/lang/Cloneable -/
def k16 : Class := { plain "java/lang/Cloneable" (some 0) with
  accessFlags := 1537
  interfaces := #[]
  cf := some (fileOf pool16 2 #[] #[] 1537 4 #[] #[])
  fields := #[]
  methods := #[]
  instanceTypes := #[]
  staticTypes := #[]
  resolved := Array.replicate 8 none
  statics := none }

/-- the primitive byte -/
def k17 : Class := { plain "byte" none with kind := .primitive 'B', accessFlags := 0x411 }
/-- [B -/
def k18 : Class := { plain "[B" (some 0) with kind := .array 17 .byte, interfaces := #[16, 2], accessFlags := 1041 }

/-- the primitive char -/
def k19 : Class := { plain "char" none with kind := .primitive 'C', accessFlags := 0x411 }
/-- [C -/
def k20 : Class := { plain "[C" (some 0) with kind := .array 19 .char, interfaces := #[16, 2], accessFlags := 1041 }

/-- the primitive int -/
def k21 : Class := { plain "int" none with kind := .primitive 'I', accessFlags := 0x411 }
/-- [I -/
def k22 : Class := { plain "[I" (some 0) with kind := .array 21 .int, interfaces := #[16, 2], accessFlags := 1041 }

def heap : Heap := #[{ cls := 7, slots := #[.long 0, .int 1, .null, .int 0, .null, .int 0, .int 0], vm := .statics 7 },
  { cls := 12, slots := #[.null, .null, .null], vm := .statics 12 }]
def classes : Array Class := #[k0, k1, k2, k3, k4, k5, k6, k7, k8, k9, k10, k11, k12, k13, k14, k15, k16, k17, k18, k19, k20, k21, k22]
def interned : List (Array UInt16 × Addr) := []
def slotsUsed : Nat := 10
def theMethod : MethodId := ⟨1, 4⟩
def args0 : Array Value := #[.int 1, .int 2, .int 3, .int 4, .int 5, .int 3]
def aboutOver (below : List Frame) : State where
  vm := { classes := classes, interned := interned.toArray }
  heap := heap
  slotsUsed := slotsUsed
  threads := #[{ frames := .invoking theMethod args0 :: below }]
def below0 : List Frame := [.native { method := ⟨0, 0⟩, args := #[] }]
def about1 : State := aboutOver below0
def p0 : Program := .bare "" "" ""
def e0 : Env := launch0.env 0 0 0
theorem w_frames : about1.frames = Frame.invoking theMethod args0 :: below0 := rfl
set_option maxRecDepth 65536 in
theorem w_args : argsFit about1.vm theMethod args0 = true := by decide +kernel
set_option maxRecDepth 65536 in
theorem w_heap : heapFits about1 = true := by decide +kernel
set_option maxRecDepth 65536 in
theorem w_runnable : about1.curStatus? = some .runnable := by decide +kernel
set_option maxRecDepth 65536 in
theorem w_alone : about1.alone = true := by decide +kernel
set_option maxRecDepth 65536 in
theorem w_named : about1.methodNamed? x = some theMethod := by decide +kernel
set_option maxRecDepth 65536 in
theorem w_hears : about1.hears theMethod below0 = true := by decide +kernel
set_option maxRecDepth 65536 in
theorem w_ripe : about1.ripe theMethod args0 below0 = true := by decide +kernel
theorem w_running : about1.status = .running := rfl
set_option maxRecDepth 65536 in
theorem w_room : about1.hasRoom e0.platform room_1 = true :=
  launch0.hasRoom_least _ room_1 (by decide +kernel) (by decide +kernel) (by decide +kernel) (by decide +kernel) (by decide +kernel) (by decide +kernel)
theorem allAtoms_all (ts : List Jvm.Cond) (a : Array Jvm.Value) (st : Jvm.State) : (allAtoms ts).before a st = ts.all (fun c => c.before a st) := by
  induction ts with
  | nil => rfl
  | cons c t ih =>
    show (Jvm.Cond.and c (allAtoms t)).before a st = _
    rw [Jvm.Cond.before_and, ih, List.all_cons]
def words1 : List Jvm.Cond := Jvm.Cond.code x code maxLocals ret :: tables_1
/-- a 'code' word, met by the world's own term for the bytes: nothing is compared byte by byte -/
theorem code_word {y : MethodName} {bytes : ByteArray} {mx : Nat} {rt : Option FieldType} {a : Array Value} {s : State} {m : MethodId} {meth : Method} {c : Code} (h1 : s.methodNamed? y = some m) (h2 : s.vm.method? m = some meth) (h3 : meth.code = some c) (h4 : c.code = bytes)
    (h5 : (c.maxLocals == mx && c.exceptionTable.isEmpty && decide (c.maxStack ≤ mostOperands) && decide (meth.sig.returnType = rt) && !meth.locks && decide (parseMethodDescriptor y.desc = some meth.sig)) = true) : (Jvm.Cond.code y bytes mx rt).before a s = true := by
  simp only [Bool.and_eq_true, beq_iff_eq, Bool.not_eq_true', decide_eq_true_eq] at h5
  obtain ⟨⟨⟨⟨⟨g1, g2⟩, g3⟩, g4⟩, g5⟩, g6⟩ := h5
  simp [Cond.before, Cond.holds, Cond.value, h1, h2, h3, h4, g1, g2, g3, g4, g5, g6]
def isCode : Jvm.Cond → Bool
  | .code _ _ _ _ => true
  | _ => false
theorem all_split {L : List Jvm.Cond} {P : Jvm.Cond → Bool} (h1 : L.all (fun c => isCode c || P c) = true) (h2 : ∀ c ∈ L.filter isCode, P c = true) : L.all P = true := by
  refine List.all_eq_true.mpr fun c hc => ?_
  have h := List.all_eq_true.mp h1 c hc
  rcases Bool.eq_false_or_eq_true (isCode c) with hi | hi
  · exact h2 c (List.mem_filter.mpr ⟨hc, hi⟩)
  · simpa [hi] using h
set_option maxRecDepth 65536 in
theorem w_c0 : (Jvm.Cond.code x code maxLocals ret).before args0 about1 = true := code_word (m := ⟨1, 4⟩) (meth := k1m4) (c := k1c4) (by decide +kernel) rfl rfl rfl (by decide +kernel)
set_option maxRecDepth 65536 in
theorem w_c1 : (Jvm.Cond.code ({ cls := "com/example/partwright/partwright/reader/FormPartLastPathComponentPinLaw", name := "ch", desc := "(I)C" } : Jvm.MethodName) method_2_code (2 : Nat) (Option.some Jvm.ClassFile.FieldType.char)).before args0 about1 = true := code_word (m := ⟨1, 1⟩) (meth := k1m1) (c := k1c1) (by decide +kernel) rfl rfl rfl (by decide +kernel)
set_option maxRecDepth 65536 in
theorem w_c2 : (Jvm.Cond.code ({ cls := "java/lang/String", name := "<init>", desc := "([C)V" } : Jvm.MethodName) jdk_42_method_3_code (2 : Nat) (Option.none : Option Jvm.ClassFile.FieldType)).before args0 about1 = true := code_word (m := ⟨7, 1⟩) (meth := k7m1) (c := k7c1) (by decide +kernel) rfl rfl rfl (by decide +kernel)
set_option maxRecDepth 65536 in
theorem w_c3 : (Jvm.Cond.code ({ cls := "java/lang/String", name := "<init>", desc := "([CIILjava/lang/Void;)V" } : Jvm.MethodName) jdk_42_method_149_code (6 : Nat) (Option.none : Option Jvm.ClassFile.FieldType)).before args0 about1 = true := code_word (m := ⟨7, 8⟩) (meth := k7m8) (c := k7c8) (by decide +kernel) rfl rfl rfl (by decide +kernel)
set_option maxRecDepth 65536 in
theorem w_c4 : (Jvm.Cond.code ({ cls := "java/lang/Object", name := "<init>", desc := "()V" } : Jvm.MethodName) object_method_1_code (1 : Nat) (Option.none : Option Jvm.ClassFile.FieldType)).before args0 about1 = true := code_word (m := ⟨0, 0⟩) (meth := k0m0) (c := k0c0) (by decide +kernel) rfl rfl rfl (by decide +kernel)
set_option maxRecDepth 65536 in
theorem w_c5 : (Jvm.Cond.code ({ cls := "java/lang/StringUTF16", name := "compress", desc := "([CII)[B" } : Jvm.MethodName) jdk_52_method_16_code (6 : Nat) (Option.some (Jvm.ClassFile.FieldType.array Jvm.ClassFile.FieldType.byte))).before args0 about1 = true := code_word (m := ⟨8, 2⟩) (meth := k8m2) (c := k8c2) (by decide +kernel) rfl rfl rfl (by decide +kernel)
set_option maxRecDepth 65536 in
theorem w_c6 : (Jvm.Cond.code ({ cls := "java/lang/StringUTF16", name := "compress", desc := "([CI[BII)I" } : Jvm.MethodName) jdk_52_method_21_code (7 : Nat) (Option.some Jvm.ClassFile.FieldType.int)).before args0 about1 = true := code_word (m := ⟨8, 3⟩) (meth := k8m3) (c := k8c3) (by decide +kernel) rfl rfl rfl (by decide +kernel)
set_option maxRecDepth 65536 in
theorem w_c7 : (Jvm.Cond.code ({ cls := "java/lang/StringUTF16", name := "coderFromArrayLen", desc := "([BI)B" } : Jvm.MethodName) jdk_52_method_15_code (2 : Nat) (Option.some Jvm.ClassFile.FieldType.byte)).before args0 about1 = true := code_word (m := ⟨8, 1⟩) (meth := k8m1) (c := k8c1) (by decide +kernel) rfl rfl rfl (by decide +kernel)
set_option maxRecDepth 65536 in
theorem w_c8 : (Jvm.Cond.code ({ cls := "com/example/partwright/partwright/reader/FormPart", name := "lastPathComponent", desc := "(Ljava/lang/String;)Ljava/lang/String;" } : Jvm.MethodName) prog_7_method_6_code (2 : Nat) (Option.some (Jvm.ClassFile.FieldType.object "java/lang/String"))).before args0 about1 = true := code_word (m := ⟨9, 0⟩) (meth := k9m0) (c := k9c0) (by decide +kernel) rfl rfl rfl (by decide +kernel)
set_option maxRecDepth 65536 in
theorem w_c9 : (Jvm.Cond.code ({ cls := "java/lang/String", name := "lastIndexOf", desc := "(I)I" } : Jvm.MethodName) jdk_42_method_82_code (2 : Nat) (Option.some Jvm.ClassFile.FieldType.int)).before args0 about1 = true := code_word (m := ⟨7, 4⟩) (meth := k7m4) (c := k7c4) (by decide +kernel) rfl rfl rfl (by decide +kernel)
set_option maxRecDepth 65536 in
theorem w_c10 : (Jvm.Cond.code ({ cls := "java/lang/String", name := "length", desc := "()I" } : Jvm.MethodName) jdk_42_method_54_code (1 : Nat) (Option.some Jvm.ClassFile.FieldType.int)).before args0 about1 = true := code_word (m := ⟨7, 2⟩) (meth := k7m2) (c := k7c2) (by decide +kernel) rfl rfl rfl (by decide +kernel)
set_option maxRecDepth 65536 in
theorem w_c11 : (Jvm.Cond.code ({ cls := "java/lang/String", name := "coder", desc := "()B" } : Jvm.MethodName) jdk_42_method_152_code (1 : Nat) (Option.some Jvm.ClassFile.FieldType.byte)).before args0 about1 = true := code_word (m := ⟨7, 10⟩) (meth := k7m10) (c := k7c10) (by decide +kernel) rfl rfl rfl (by decide +kernel)
set_option maxRecDepth 65536 in
theorem w_c12 : (Jvm.Cond.code ({ cls := "java/lang/String", name := "lastIndexOf", desc := "(II)I" } : Jvm.MethodName) jdk_42_method_83_code (3 : Nat) (Option.some Jvm.ClassFile.FieldType.int)).before args0 about1 = true := code_word (m := ⟨7, 5⟩) (meth := k7m5) (c := k7c5) (by decide +kernel) rfl rfl rfl (by decide +kernel)
set_option maxRecDepth 65536 in
theorem w_c13 : (Jvm.Cond.code ({ cls := "java/lang/String", name := "isLatin1", desc := "()Z" } : Jvm.MethodName) jdk_42_method_154_code (1 : Nat) (Option.some Jvm.ClassFile.FieldType.boolean)).before args0 about1 = true := code_word (m := ⟨7, 11⟩) (meth := k7m11) (c := k7c11) (by decide +kernel) rfl rfl rfl (by decide +kernel)
set_option maxRecDepth 65536 in
theorem w_c14 : (Jvm.Cond.code ({ cls := "java/lang/StringLatin1", name := "lastIndexOf", desc := "([BII)I" } : Jvm.MethodName) jdk_43_method_27_code (4 : Nat) (Option.some Jvm.ClassFile.FieldType.int)).before args0 about1 = true := code_word (m := ⟨10, 3⟩) (meth := k10m3) (c := k10c3) (by decide +kernel) rfl rfl rfl (by decide +kernel)
set_option maxRecDepth 65536 in
theorem w_c15 : (Jvm.Cond.code ({ cls := "java/lang/StringLatin1", name := "canEncode", desc := "(I)Z" } : Jvm.MethodName) jdk_43_method_4_code (1 : Nat) (Option.some Jvm.ClassFile.FieldType.boolean)).before args0 about1 = true := code_word (m := ⟨10, 2⟩) (meth := k10m2) (c := k10c2) (by decide +kernel) rfl rfl rfl (by decide +kernel)
set_option maxRecDepth 65536 in
theorem w_c16 : (Jvm.Cond.code ({ cls := "java/lang/Math", name := "min", desc := "(II)I" } : Jvm.MethodName) jdk_29_method_69_code (2 : Nat) (Option.some Jvm.ClassFile.FieldType.int)).before args0 about1 = true := code_word (m := ⟨11, 2⟩) (meth := k11m2) (c := k11c2) (by decide +kernel) rfl rfl rfl (by decide +kernel)
set_option maxRecDepth 65536 in
theorem w_c17 : (Jvm.Cond.code ({ cls := "java/lang/Math", name := "max", desc := "(II)I" } : Jvm.MethodName) jdk_29_method_65_code (2 : Nat) (Option.some Jvm.ClassFile.FieldType.int)).before args0 about1 = true := code_word (m := ⟨11, 1⟩) (meth := k11m1) (c := k11c1) (by decide +kernel) rfl rfl rfl (by decide +kernel)
set_option maxRecDepth 65536 in
theorem w_c18 : (Jvm.Cond.code ({ cls := "java/lang/String", name := "substring", desc := "(I)Ljava/lang/String;" } : Jvm.MethodName) jdk_42_method_91_code (2 : Nat) (Option.some (Jvm.ClassFile.FieldType.object "java/lang/String"))).before args0 about1 = true := code_word (m := ⟨7, 6⟩) (meth := k7m6) (c := k7c6) (by decide +kernel) rfl rfl rfl (by decide +kernel)
set_option maxRecDepth 65536 in
theorem w_c19 : (Jvm.Cond.code ({ cls := "java/lang/String", name := "substring", desc := "(II)Ljava/lang/String;" } : Jvm.MethodName) jdk_42_method_92_code (5 : Nat) (Option.some (Jvm.ClassFile.FieldType.object "java/lang/String"))).before args0 about1 = true := code_word (m := ⟨7, 7⟩) (meth := k7m7) (c := k7c7) (by decide +kernel) rfl rfl rfl (by decide +kernel)
set_option maxRecDepth 65536 in
theorem w_c20 : (Jvm.Cond.code ({ cls := "java/lang/String", name := "checkBoundsBeginEnd", desc := "(III)V" } : Jvm.MethodName) jdk_42_method_158_code (3 : Nat) (Option.none : Option Jvm.ClassFile.FieldType)).before args0 about1 = true := code_word (m := ⟨7, 13⟩) (meth := k7m13) (c := k7c13) (by decide +kernel) rfl rfl rfl (by decide +kernel)
set_option maxRecDepth 65536 in
theorem w_c21 : (Jvm.Cond.code ({ cls := "jdk/internal/util/Preconditions", name := "checkFromToIndex", desc := "(IIILjava/util/function/BiFunction;)I" } : Jvm.MethodName) jdk_41_method_12_code (4 : Nat) (Option.some Jvm.ClassFile.FieldType.int)).before args0 about1 = true := code_word (m := ⟨12, 2⟩) (meth := k12m2) (c := k12c2) (by decide +kernel) rfl rfl rfl (by decide +kernel)
set_option maxRecDepth 65536 in
theorem w_c22 : (Jvm.Cond.code ({ cls := "java/lang/StringLatin1", name := "newString", desc := "([BII)Ljava/lang/String;" } : Jvm.MethodName) jdk_43_method_47_code (3 : Nat) (Option.some (Jvm.ClassFile.FieldType.object "java/lang/String"))).before args0 about1 = true := code_word (m := ⟨10, 4⟩) (meth := k10m4) (c := k10c4) (by decide +kernel) rfl rfl rfl (by decide +kernel)
set_option maxRecDepth 65536 in
theorem w_c23 : (Jvm.Cond.code ({ cls := "java/util/Arrays", name := "copyOfRange", desc := "([BII)[B" } : Jvm.MethodName) jdk_65_method_132_code (3 : Nat) (Option.some (Jvm.ClassFile.FieldType.array Jvm.ClassFile.FieldType.byte))).before args0 about1 = true := code_word (m := ⟨13, 2⟩) (meth := k13m2) (c := k13c2) (by decide +kernel) rfl rfl rfl (by decide +kernel)
set_option maxRecDepth 65536 in
theorem w_c24 : (Jvm.Cond.code ({ cls := "java/util/Arrays", name := "copyOfRangeByte", desc := "([BII)[B" } : Jvm.MethodName) jdk_65_method_133_code (5 : Nat) (Option.some (Jvm.ClassFile.FieldType.array Jvm.ClassFile.FieldType.byte))).before args0 about1 = true := code_word (m := ⟨13, 3⟩) (meth := k13m3) (c := k13c3) (by decide +kernel) rfl rfl rfl (by decide +kernel)
set_option maxRecDepth 65536 in
theorem w_c25 : (Jvm.Cond.code ({ cls := "java/util/Arrays", name := "checkLength", desc := "(II)V" } : Jvm.MethodName) jdk_65_method_131_code (2 : Nat) (Option.none : Option Jvm.ClassFile.FieldType)).before args0 about1 = true := code_word (m := ⟨13, 1⟩) (meth := k13m1) (c := k13c1) (by decide +kernel) rfl rfl rfl (by decide +kernel)
set_option maxRecDepth 65536 in
theorem w_c26 : (Jvm.Cond.code ({ cls := "java/lang/String", name := "<init>", desc := "([BB)V" } : Jvm.MethodName) jdk_42_method_151_code (3 : Nat) (Option.none : Option Jvm.ClassFile.FieldType)).before args0 about1 = true := code_word (m := ⟨7, 9⟩) (meth := k7m9) (c := k7c9) (by decide +kernel) rfl rfl rfl (by decide +kernel)
set_option maxRecDepth 65536 in
theorem w_c27 : (Jvm.Cond.code ({ cls := "com/example/partwright/partwright/reader/FormPartLastPathComponentPinLaw", name := "sep", desc := "(C)Z" } : Jvm.MethodName) method_3_code (1 : Nat) (Option.some Jvm.ClassFile.FieldType.boolean)).before args0 about1 = true := code_word (m := ⟨1, 2⟩) (meth := k1m2) (c := k1c2) (by decide +kernel) rfl rfl rfl (by decide +kernel)
set_option maxRecDepth 65536 in
theorem w_c28 : (Jvm.Cond.code ({ cls := "com/example/partwright/partwright/reader/FormPartLastPathComponentPinLaw", name := "at", desc := "(Ljava/lang/String;II[CI)Z" } : Jvm.MethodName) method_4_code (5 : Nat) (Option.some Jvm.ClassFile.FieldType.boolean)).before args0 about1 = true := code_word (m := ⟨1, 3⟩) (meth := k1m3) (c := k1c3) (by decide +kernel) rfl rfl rfl (by decide +kernel)
set_option maxRecDepth 65536 in
theorem w_c29 : (Jvm.Cond.code ({ cls := "java/lang/String", name := "charAt", desc := "(I)C" } : Jvm.MethodName) jdk_42_method_56_code (2 : Nat) (Option.some Jvm.ClassFile.FieldType.char)).before args0 about1 = true := code_word (m := ⟨7, 3⟩) (meth := k7m3) (c := k7c3) (by decide +kernel) rfl rfl rfl (by decide +kernel)
set_option maxRecDepth 65536 in
theorem w_c30 : (Jvm.Cond.code ({ cls := "java/lang/StringLatin1", name := "charAt", desc := "([BI)C" } : Jvm.MethodName) jdk_43_method_2_code (2 : Nat) (Option.some Jvm.ClassFile.FieldType.char)).before args0 about1 = true := code_word (m := ⟨10, 1⟩) (meth := k10m1) (c := k10c1) (by decide +kernel) rfl rfl rfl (by decide +kernel)
set_option maxRecDepth 65536 in
theorem w_c31 : (Jvm.Cond.code ({ cls := "java/lang/String", name := "checkIndex", desc := "(II)V" } : Jvm.MethodName) jdk_42_method_155_code (2 : Nat) (Option.none : Option Jvm.ClassFile.FieldType)).before args0 about1 = true := code_word (m := ⟨7, 12⟩) (meth := k7m12) (c := k7c12) (by decide +kernel) rfl rfl rfl (by decide +kernel)
set_option maxRecDepth 65536 in
theorem w_c32 : (Jvm.Cond.code ({ cls := "jdk/internal/util/Preconditions", name := "checkIndex", desc := "(IILjava/util/function/BiFunction;)I" } : Jvm.MethodName) jdk_41_method_11_code (3 : Nat) (Option.some Jvm.ClassFile.FieldType.int)).before args0 about1 = true := code_word (m := ⟨12, 1⟩) (meth := k12m1) (c := k12c1) (by decide +kernel) rfl rfl rfl (by decide +kernel)
def codes1 : List Jvm.Cond := [Jvm.Cond.code x code maxLocals ret, Jvm.Cond.code ({ cls := "com/example/partwright/partwright/reader/FormPartLastPathComponentPinLaw", name := "ch", desc := "(I)C" } : Jvm.MethodName) method_2_code (2 : Nat) (Option.some Jvm.ClassFile.FieldType.char), Jvm.Cond.code ({ cls := "java/lang/String", name := "<init>", desc := "([C)V" } : Jvm.MethodName) jdk_42_method_3_code (2 : Nat) (Option.none : Option Jvm.ClassFile.FieldType), Jvm.Cond.code ({ cls := "java/lang/String", name := "<init>", desc := "([CIILjava/lang/Void;)V" } : Jvm.MethodName) jdk_42_method_149_code (6 : Nat) (Option.none : Option Jvm.ClassFile.FieldType), Jvm.Cond.code ({ cls := "java/lang/Object", name := "<init>", desc := "()V" } : Jvm.MethodName) object_method_1_code (1 : Nat) (Option.none : Option Jvm.ClassFile.FieldType), Jvm.Cond.code ({ cls := "java/lang/StringUTF16", name := "compress", desc := "([CII)[B" } : Jvm.MethodName) jdk_52_method_16_code (6 : Nat) (Option.some (Jvm.ClassFile.FieldType.array Jvm.ClassFile.FieldType.byte)), Jvm.Cond.code ({ cls := "java/lang/StringUTF16", name := "compress", desc := "([CI[BII)I" } : Jvm.MethodName) jdk_52_method_21_code (7 : Nat) (Option.some Jvm.ClassFile.FieldType.int), Jvm.Cond.code ({ cls := "java/lang/StringUTF16", name := "coderFromArrayLen", desc := "([BI)B" } : Jvm.MethodName) jdk_52_method_15_code (2 : Nat) (Option.some Jvm.ClassFile.FieldType.byte), Jvm.Cond.code ({ cls := "com/example/partwright/partwright/reader/FormPart", name := "lastPathComponent", desc := "(Ljava/lang/String;)Ljava/lang/String;" } : Jvm.MethodName) prog_7_method_6_code (2 : Nat) (Option.some (Jvm.ClassFile.FieldType.object "java/lang/String")), Jvm.Cond.code ({ cls := "java/lang/String", name := "lastIndexOf", desc := "(I)I" } : Jvm.MethodName) jdk_42_method_82_code (2 : Nat) (Option.some Jvm.ClassFile.FieldType.int), Jvm.Cond.code ({ cls := "java/lang/String", name := "length", desc := "()I" } : Jvm.MethodName) jdk_42_method_54_code (1 : Nat) (Option.some Jvm.ClassFile.FieldType.int), Jvm.Cond.code ({ cls := "java/lang/String", name := "coder", desc := "()B" } : Jvm.MethodName) jdk_42_method_152_code (1 : Nat) (Option.some Jvm.ClassFile.FieldType.byte), Jvm.Cond.code ({ cls := "java/lang/String", name := "lastIndexOf", desc := "(II)I" } : Jvm.MethodName) jdk_42_method_83_code (3 : Nat) (Option.some Jvm.ClassFile.FieldType.int), Jvm.Cond.code ({ cls := "java/lang/String", name := "isLatin1", desc := "()Z" } : Jvm.MethodName) jdk_42_method_154_code (1 : Nat) (Option.some Jvm.ClassFile.FieldType.boolean), Jvm.Cond.code ({ cls := "java/lang/StringLatin1", name := "lastIndexOf", desc := "([BII)I" } : Jvm.MethodName) jdk_43_method_27_code (4 : Nat) (Option.some Jvm.ClassFile.FieldType.int), Jvm.Cond.code ({ cls := "java/lang/StringLatin1", name := "canEncode", desc := "(I)Z" } : Jvm.MethodName) jdk_43_method_4_code (1 : Nat) (Option.some Jvm.ClassFile.FieldType.boolean), Jvm.Cond.code ({ cls := "java/lang/Math", name := "min", desc := "(II)I" } : Jvm.MethodName) jdk_29_method_69_code (2 : Nat) (Option.some Jvm.ClassFile.FieldType.int), Jvm.Cond.code ({ cls := "java/lang/Math", name := "max", desc := "(II)I" } : Jvm.MethodName) jdk_29_method_65_code (2 : Nat) (Option.some Jvm.ClassFile.FieldType.int), Jvm.Cond.code ({ cls := "java/lang/String", name := "substring", desc := "(I)Ljava/lang/String;" } : Jvm.MethodName) jdk_42_method_91_code (2 : Nat) (Option.some (Jvm.ClassFile.FieldType.object "java/lang/String")), Jvm.Cond.code ({ cls := "java/lang/String", name := "substring", desc := "(II)Ljava/lang/String;" } : Jvm.MethodName) jdk_42_method_92_code (5 : Nat) (Option.some (Jvm.ClassFile.FieldType.object "java/lang/String")), Jvm.Cond.code ({ cls := "java/lang/String", name := "checkBoundsBeginEnd", desc := "(III)V" } : Jvm.MethodName) jdk_42_method_158_code (3 : Nat) (Option.none : Option Jvm.ClassFile.FieldType), Jvm.Cond.code ({ cls := "jdk/internal/util/Preconditions", name := "checkFromToIndex", desc := "(IIILjava/util/function/BiFunction;)I" } : Jvm.MethodName) jdk_41_method_12_code (4 : Nat) (Option.some Jvm.ClassFile.FieldType.int), Jvm.Cond.code ({ cls := "java/lang/StringLatin1", name := "newString", desc := "([BII)Ljava/lang/String;" } : Jvm.MethodName) jdk_43_method_47_code (3 : Nat) (Option.some (Jvm.ClassFile.FieldType.object "java/lang/String")), Jvm.Cond.code ({ cls := "java/util/Arrays", name := "copyOfRange", desc := "([BII)[B" } : Jvm.MethodName) jdk_65_method_132_code (3 : Nat) (Option.some (Jvm.ClassFile.FieldType.array Jvm.ClassFile.FieldType.byte)), Jvm.Cond.code ({ cls := "java/util/Arrays", name := "copyOfRangeByte", desc := "([BII)[B" } : Jvm.MethodName) jdk_65_method_133_code (5 : Nat) (Option.some (Jvm.ClassFile.FieldType.array Jvm.ClassFile.FieldType.byte)), Jvm.Cond.code ({ cls := "java/util/Arrays", name := "checkLength", desc := "(II)V" } : Jvm.MethodName) jdk_65_method_131_code (2 : Nat) (Option.none : Option Jvm.ClassFile.FieldType), Jvm.Cond.code ({ cls := "java/lang/String", name := "<init>", desc := "([BB)V" } : Jvm.MethodName) jdk_42_method_151_code (3 : Nat) (Option.none : Option Jvm.ClassFile.FieldType), Jvm.Cond.code ({ cls := "com/example/partwright/partwright/reader/FormPartLastPathComponentPinLaw", name := "sep", desc := "(C)Z" } : Jvm.MethodName) method_3_code (1 : Nat) (Option.some Jvm.ClassFile.FieldType.boolean), Jvm.Cond.code ({ cls := "com/example/partwright/partwright/reader/FormPartLastPathComponentPinLaw", name := "at", desc := "(Ljava/lang/String;II[CI)Z" } : Jvm.MethodName) method_4_code (5 : Nat) (Option.some Jvm.ClassFile.FieldType.boolean), Jvm.Cond.code ({ cls := "java/lang/String", name := "charAt", desc := "(I)C" } : Jvm.MethodName) jdk_42_method_56_code (2 : Nat) (Option.some Jvm.ClassFile.FieldType.char), Jvm.Cond.code ({ cls := "java/lang/StringLatin1", name := "charAt", desc := "([BI)C" } : Jvm.MethodName) jdk_43_method_2_code (2 : Nat) (Option.some Jvm.ClassFile.FieldType.char), Jvm.Cond.code ({ cls := "java/lang/String", name := "checkIndex", desc := "(II)V" } : Jvm.MethodName) jdk_42_method_155_code (2 : Nat) (Option.none : Option Jvm.ClassFile.FieldType), Jvm.Cond.code ({ cls := "jdk/internal/util/Preconditions", name := "checkIndex", desc := "(IILjava/util/function/BiFunction;)I" } : Jvm.MethodName) jdk_41_method_11_code (3 : Nat) (Option.some Jvm.ClassFile.FieldType.int)]
set_option maxRecDepth 65536 in
theorem codes_eq : words1.filter isCode = codes1 := rfl
theorem w_codes : ∀ c ∈ words1.filter isCode, c.before args0 about1 = true := by
  rw [codes_eq]
  intro c hc
  simp only [codes1, List.mem_cons, List.not_mem_nil, or_false] at hc
  rcases hc with rfl | rfl | rfl | rfl | rfl | rfl | rfl | rfl | rfl | rfl | rfl | rfl | rfl | rfl | rfl | rfl | rfl | rfl | rfl | rfl | rfl | rfl | rfl | rfl | rfl | rfl | rfl | rfl | rfl | rfl | rfl | rfl | rfl
  · exact w_c0
  · exact w_c1
  · exact w_c2
  · exact w_c3
  · exact w_c4
  · exact w_c5
  · exact w_c6
  · exact w_c7
  · exact w_c8
  · exact w_c9
  · exact w_c10
  · exact w_c11
  · exact w_c12
  · exact w_c13
  · exact w_c14
  · exact w_c15
  · exact w_c16
  · exact w_c17
  · exact w_c18
  · exact w_c19
  · exact w_c20
  · exact w_c21
  · exact w_c22
  · exact w_c23
  · exact w_c24
  · exact w_c25
  · exact w_c26
  · exact w_c27
  · exact w_c28
  · exact w_c29
  · exact w_c30
  · exact w_c31
  · exact w_c32
set_option maxRecDepth 65536 in
theorem w_t1 : (words1.take 24).all (fun c => isCode c || c.before args0 about1) = true := by decide +kernel
set_option maxRecDepth 65536 in
theorem w_t2 : ((words1.drop 24).take 24).all (fun c => isCode c || c.before args0 about1) = true := by decide +kernel
set_option maxRecDepth 65536 in
theorem w_t3 : (((words1.drop 24).drop 24).take 24).all (fun c => isCode c || c.before args0 about1) = true := by decide +kernel
set_option maxRecDepth 65536 in
theorem w_t4 : ((((words1.drop 24).drop 24).drop 24).take 24).all (fun c => isCode c || c.before args0 about1) = true := by decide +kernel
set_option maxRecDepth 65536 in
theorem w_t5 : (((((words1.drop 24).drop 24).drop 24).drop 24).take 24).all (fun c => isCode c || c.before args0 about1) = true := by decide +kernel
set_option maxRecDepth 65536 in
theorem w_t6 : (((((words1.drop 24).drop 24).drop 24).drop 24).drop 24).all (fun c => isCode c || c.before args0 about1) = true := by decide +kernel
theorem w_tables : (allAtoms (Jvm.Cond.code x code maxLocals ret :: tables_1)).before args0 about1 = true := by
  rw [allAtoms_all]
  show words1.all (fun c => c.before args0 about1) = true
  refine all_split ?_ w_codes
  rw [← List.take_append_drop 24 words1, List.all_append, w_t1, ← List.take_append_drop 24 (words1.drop 24), List.all_append, w_t2, ← List.take_append_drop 24 ((words1.drop 24).drop 24), List.all_append, w_t3, ← List.take_append_drop 24 (((words1.drop 24).drop 24).drop 24), List.all_append, w_t4, ← List.take_append_drop 24 ((((words1.drop 24).drop 24).drop 24).drop 24), List.all_append, w_t5, w_t6]
  rfl
set_option maxRecDepth 65536 in
theorem w_rest : rest_1_c.before args0 about1 = true := by decide +kernel
set_option maxRecDepth 65536 in
theorem w_case : (Jvm.Cond.and given_1 narrow_1).before args0 about1 = true := by decide +kernel
set_option maxRecDepth 65536 in
theorem w_consts : constsHeld consts_1 about1 := Jvm.Lit.constsHeldB_iff.mp (by decide +kernel)
theorem w_applies : (headSpec (Jvm.Cond.code x code maxLocals ret :: tables_1) room_1).applies x e0.platform about1 = true :=
  (Spec.applies_iff w_frames).mpr ⟨w_running, w_runnable, w_alone, w_named, w_hears, w_ripe, w_room, w_tables⟩
theorem atStart : AtStart classFile x code maxLocals ret World_1 tables_1 room_1 Calls_1 rest_1 Pre_1 launch0 p0 e0 about1 theMethod args0 below0 :=
  ⟨lists_1, trivial, launch0.admits_env _ _ _, launch0.least_env, fairChoices_fair.cas, fairChoices_fair.clock, w_frames, w_args, w_heap, w_applies, ⟨w_consts, trivial⟩, w_rest, w_case⟩
end start1
theorem witness_1 : WitnessClaimed_1 := ⟨start1.p0, start1.e0, start1.about1, start1.theMethod, start1.args0, start1.below0, start1.atStart⟩
end Jvm.Pilot.@@N@@
