import JvmDerived
import JvmDerived.Pilot.@@N@@Statement
import JvmDerived.Pilot.@@N@@Code
set_option linter.unusedVariables false
set_option linter.unusedSimpArgs false
namespace Jvm.RoadKit
open Sem ClassFile Op Lib Jvm.Stand Jvm.Free Jvm.LawKit
section Own
variable {p : Program} {l : Launch} {e : Env} {R : Room} {s : State} {m : MethodId} {args : Array Value} {below : List Frame} {meth : Method} {c : Code} {T : State} {locs : List Loc} {cells slots : Nat} {Q : Option Value → Heap → List Loc → Prop} {k n : Nat} {A B : State} {h : Heap}
/-- from the state A the run comes to its end, with what Q says -/
def Goes (p : Program) (e : Env) (below : List Frame) (s : State) (Q : Option Value → Heap → List Loc → Prop) (k n : Nat) (A : State) : Prop :=
  ∃ s₂ o, Steps p.tables e below A s₂ ∧ s₂.status = .running ∧ Ended s₂ below o ∧ ∃ v L, o = .returned v ∧ Q v s₂.heap L ∧ FrameEnd s o s₂ L k n
theorem Goes.step (q : ∀ t, Steps p.tables e below B t → Steps p.tables e below A t) (g : Goes p e below s Q k n B) : Goes p e below s Q k n A := by
  obtain ⟨s₂, o, h1, h2⟩ := g
  exact ⟨s₂, o, q _ h1, h2⟩
theorem Goes.via (q : Steps p.tables e below A B) (g : Goes p e below s Q k n B) : Goes p e below s Q k n A := by
  obtain ⟨s₂, o, h1, h2⟩ := g
  exact ⟨s₂, o, q.trans h1, h2⟩
theorem Goes.enter {g g' : JFrame} (q : g = g') (h : Goes p e below s Q k n (T.setTop g')) : Goes p e below s Q k n (T.setTop g) := q ▸ h
theorem Goes.out (X : Stand p l e R s m args below meth c T locs cells slots) (eT : T.heap = h) {v : Option Value} (hv : meth.sig.returnType = none → v = none) (hlk : meth.locks = false)
    (hs : ∀ fs, (∀ (f : JFrame) (acts : List Action), f.method = m → f.locked = none → f.entered = [] → (doReturn e (T.setTop f) acts v).1 = T.setFrames fs) → Steps p.tables e below A (T.setFrames fs)) (hk : cells ≤ k) (hn : slots ≤ n) (hQ : Q v h locs) : Goes p e below s Q k n A := by
  obtain ⟨fs, hr, hrun, hended, hW, hsame⟩ := X.leave (v := v) hv hlk
  exact ⟨_, _, hs fs hr, hrun, hended, _, _, rfl, (by show Q v T.heap locs; rw [eT]; exact hQ), ⟨_, rfl⟩, hW, hsame.mono hk hn⟩
theorem own_some {t : FieldType} {v : Option Value} (h : meth.sig.returnType = some t) : meth.sig.returnType = none → v = none := fun q => by rw [h] at q; cases q
theorem Goes.retI (X : Stand p l e R s m args below meth c T locs cells slots) (hx : p.tables.exec = Jvm.exec) (eT : T.heap = h) {pc : Nat} {Ls : Array Slot} {z : Int32} {rest : List Value} (hret : meth.sig.returnType = some .int) (hlk : meth.locks = false) (hd : decode c.code pc = .ok (.ireturn, 1)) (hk : cells ≤ k) (hn : slots ≤ n) (hQ : Q (some (.int z)) h locs) :
    Goes p e below s Q k n (T.setTop (mkF m pc Ls (.int z :: rest))) :=
  Goes.out X eT (own_some hret) hlk (fun fs hr => retOut X hx hret rfl (Or.inl ⟨rfl, Or.inl rfl, z, rfl⟩) hd hr) hk hn hQ
theorem Goes.retN (X : Stand p l e R s m args below meth c T locs cells slots) (hx : p.tables.exec = Jvm.exec) (eT : T.heap = h) {pc : Nat} {Ls : Array Slot} {z : Int32} {t : FieldType} {rest : List Value} (hret : meth.sig.returnType = some t) (ht : t = .boolean ∨ t = .byte ∨ t = .char ∨ t = .short) (hlk : meth.locks = false) (hd : decode c.code pc = .ok (.ireturn, 1)) (hk : cells ≤ k) (hn : slots ≤ n) (hQ : Q (some (.int (nar t z))) h locs) :
    Goes p e below s Q k n (T.setTop (mkF m pc Ls (.int z :: rest))) :=
  Goes.out X eT (own_some hret) hlk (fun fs hr => Jvm.RoadKit.retN X hx hret ht hd hr) hk hn hQ
theorem Goes.retV (X : Stand p l e R s m args below meth c T locs cells slots) (hx : p.tables.exec = Jvm.exec) (eT : T.heap = h) {pc : Nat} {Ls : Array Slot} (hret : meth.sig.returnType = none) (hlk : meth.locks = false) (hd : decode c.code pc = .ok (.return_, 1)) (hk : cells ≤ k) (hn : slots ≤ n) (hQ : Q none h locs) :
    Goes p e below s Q k n (T.setTop (mkF m pc Ls [])) :=
  Goes.out X eT (fun _ => rfl) hlk (fun fs hr => X.returnOut hx hret hd hr) hk hn hQ
theorem Goes.retJ (X : Stand p l e R s m args below meth c T locs cells slots) (hx : p.tables.exec = Jvm.exec) (eT : T.heap = h) {pc : Nat} {Ls : Array Slot} {z : Int64} {rest : List Value} (hret : meth.sig.returnType = some .long) (hlk : meth.locks = false) (hd : decode c.code pc = .ok (.lreturn, 1)) (hk : cells ≤ k) (hn : slots ≤ n) (hQ : Q (some (.long z)) h locs) :
    Goes p e below s Q k n (T.setTop (mkF m pc Ls (.long z :: rest))) :=
  Goes.out X eT (own_some hret) hlk (fun fs hr => retOut X hx hret rfl (Or.inr (Or.inl ⟨rfl, rfl, z, rfl⟩)) hd hr) hk hn hQ
theorem Goes.retD (X : Stand p l e R s m args below meth c T locs cells slots) (hx : p.tables.exec = Jvm.exec) (eT : T.heap = h) {pc : Nat} {Ls : Array Slot} {z : UInt64} {rest : List Value} (hret : meth.sig.returnType = some .double) (hlk : meth.locks = false) (hd : decode c.code pc = .ok (.dreturn, 1)) (hk : cells ≤ k) (hn : slots ≤ n) (hQ : Q (some (.double z)) h locs) :
    Goes p e below s Q k n (T.setTop (mkF m pc Ls (.double z :: rest))) :=
  Goes.out X eT (own_some hret) hlk (fun fs hr => retOut X hx hret rfl (Or.inr (Or.inr (Or.inl ⟨rfl, rfl, z, rfl⟩))) hd hr) hk hn hQ
theorem own_narR {t : FieldType} {w : Value} (h : t.isReference = true) : narrow t w = w := by cases t <;> first | rfl | (cases w <;> first | rfl | cases h)
theorem Goes.retA (X : Stand p l e R s m args below meth c T locs cells slots) (hx : p.tables.exec = Jvm.exec) (eT : T.heap = h) {pc : Nat} {Ls : Array Slot} {w : Value} {t : FieldType} {rest : List Value} (hret : meth.sig.returnType = some t) (ht : t.isReference = true) (hw : w.isRef = true) (hlk : meth.locks = false) (hd : decode c.code pc = .ok (.areturn, 1)) (hk : cells ≤ k) (hn : slots ≤ n) (hQ : Q (some w) h locs) :
    Goes p e below s Q k n (T.setTop (mkF m pc Ls (w :: rest))) :=
  Goes.out X eT (own_some hret) hlk (fun fs hr => retOut X hx hret (own_narR ht) (Or.inr (Or.inr (Or.inr (Or.inr ⟨rfl, ht, hw⟩)))) hd hr) hk hn hQ
theorem own_z {Z : State} {n0 : Nat} (O : Old Z n0 h) : n0 ≤ h.size := O.1 ▸ O.2.1
end Own
end Jvm.RoadKit
namespace Jvm.RoadKit
open Sem ClassFile Op Lib Jvm.Stand Jvm.Free Jvm.LawKit
section OwnW
variable {p : Program} {l : Launch} {e : Env} {R : Room} {s : State} {m : MethodId} {args : Array Value} {below : List Frame} {meth : Method} {c : Code} {T : State} {locs : List Loc} {cells slots : Nat} {Q : Option Value → Heap → List Loc → Prop} {k n : Nat} {A B : State} {h : Heap}
/-- the same, of a run that may intern String constants: the start s, its tables at hand vm0 -/
def GoesW (p : Program) (e : Env) (below : List Frame) (s : State) (Q : Option Value → Heap → List Loc → Prop) (k n : Nat) (A : State) : Prop :=
  ∃ s₂ o, Steps p.tables e below A s₂ ∧ s₂.status = .running ∧ Ended s₂ below o ∧ ∃ v L, o = .returned v ∧ Q v s₂.heap L ∧ ReturnedEndW s o s₂ L k n
theorem GoesW.step (q : ∀ t, Steps p.tables e below B t → Steps p.tables e below A t) (g : GoesW p e below s Q k n B) : GoesW p e below s Q k n A := by
  obtain ⟨s₂, o, h1, h2⟩ := g
  exact ⟨s₂, o, q _ h1, h2⟩
theorem GoesW.via (q : Steps p.tables e below A B) (g : GoesW p e below s Q k n B) : GoesW p e below s Q k n A := by
  obtain ⟨s₂, o, h1, h2⟩ := g
  exact ⟨s₂, o, q.trans h1, h2⟩
theorem GoesW.enter {g g' : JFrame} (q : g = g') (h : GoesW p e below s Q k n (T.setTop g')) : GoesW p e below s Q k n (T.setTop g) := q ▸ h
theorem GoesW.out {vm0 : Vm} {k0 : Nat} (X : Stand p l e R (s.setVm vm0) m args below meth c T locs cells slots) (hS : s.Since vm0 k0) (hk0 : k0 ≤ h.size) (eT : T.heap = h) {v : Option Value} (hv : meth.sig.returnType = none → v = none) (hlk : meth.locks = false)
    (hs : ∀ fs, (∀ (f : JFrame) (acts : List Action), f.method = m → f.locked = none → f.entered = [] → (doReturn e (T.setTop f) acts v).1 = T.setFrames fs) → Steps p.tables e below A (T.setFrames fs)) (hk : cells ≤ k) (hn : slots ≤ n) (hQ : Q v h locs) : GoesW p e below s Q k n A := by
  obtain ⟨fs, hr, hrun, hended, hW1, hW2, hW3, hW4⟩ := X.leaveW hS (by rw [eT]; exact hk0) (v := v) hv hlk
  exact ⟨_, _, hs fs hr, hrun, hended, _, _, rfl, (by show Q v T.heap locs; rw [eT]; exact hQ), hW1, hW2, hW3, hW4.mono hk hn⟩
theorem GoesW.retI {vm0 : Vm} {k0 : Nat} (X : Stand p l e R (s.setVm vm0) m args below meth c T locs cells slots) (hS : s.Since vm0 k0) (hk0 : k0 ≤ h.size) (hx : p.tables.exec = Jvm.exec) (eT : T.heap = h) {pc : Nat} {Ls : Array Slot} {z : Int32} {rest : List Value} (hret : meth.sig.returnType = some .int) (hlk : meth.locks = false) (hd : decode c.code pc = .ok (.ireturn, 1)) (hk : cells ≤ k) (hn : slots ≤ n) (hQ : Q (some (.int z)) h locs) :
    GoesW p e below s Q k n (T.setTop (mkF m pc Ls (.int z :: rest))) :=
  GoesW.out X hS hk0 eT (own_some hret) hlk (fun fs hr => retOut X hx hret rfl (Or.inl ⟨rfl, Or.inl rfl, z, rfl⟩) hd hr) hk hn hQ
theorem GoesW.retN {vm0 : Vm} {k0 : Nat} (X : Stand p l e R (s.setVm vm0) m args below meth c T locs cells slots) (hS : s.Since vm0 k0) (hk0 : k0 ≤ h.size) (hx : p.tables.exec = Jvm.exec) (eT : T.heap = h) {pc : Nat} {Ls : Array Slot} {z : Int32} {t : FieldType} {rest : List Value} (hret : meth.sig.returnType = some t) (ht : t = .boolean ∨ t = .byte ∨ t = .char ∨ t = .short) (hlk : meth.locks = false) (hd : decode c.code pc = .ok (.ireturn, 1)) (hk : cells ≤ k) (hn : slots ≤ n) (hQ : Q (some (.int (nar t z))) h locs) :
    GoesW p e below s Q k n (T.setTop (mkF m pc Ls (.int z :: rest))) :=
  GoesW.out X hS hk0 eT (own_some hret) hlk (fun fs hr => Jvm.RoadKit.retN X hx hret ht hd hr) hk hn hQ
theorem GoesW.retV {vm0 : Vm} {k0 : Nat} (X : Stand p l e R (s.setVm vm0) m args below meth c T locs cells slots) (hS : s.Since vm0 k0) (hk0 : k0 ≤ h.size) (hx : p.tables.exec = Jvm.exec) (eT : T.heap = h) {pc : Nat} {Ls : Array Slot} (hret : meth.sig.returnType = none) (hlk : meth.locks = false) (hd : decode c.code pc = .ok (.return_, 1)) (hk : cells ≤ k) (hn : slots ≤ n) (hQ : Q none h locs) :
    GoesW p e below s Q k n (T.setTop (mkF m pc Ls [])) :=
  GoesW.out X hS hk0 eT (fun _ => rfl) hlk (fun fs hr => X.returnOut hx hret hd hr) hk hn hQ
theorem GoesW.retJ {vm0 : Vm} {k0 : Nat} (X : Stand p l e R (s.setVm vm0) m args below meth c T locs cells slots) (hS : s.Since vm0 k0) (hk0 : k0 ≤ h.size) (hx : p.tables.exec = Jvm.exec) (eT : T.heap = h) {pc : Nat} {Ls : Array Slot} {z : Int64} {rest : List Value} (hret : meth.sig.returnType = some .long) (hlk : meth.locks = false) (hd : decode c.code pc = .ok (.lreturn, 1)) (hk : cells ≤ k) (hn : slots ≤ n) (hQ : Q (some (.long z)) h locs) :
    GoesW p e below s Q k n (T.setTop (mkF m pc Ls (.long z :: rest))) :=
  GoesW.out X hS hk0 eT (own_some hret) hlk (fun fs hr => retOut X hx hret rfl (Or.inr (Or.inl ⟨rfl, rfl, z, rfl⟩)) hd hr) hk hn hQ
theorem GoesW.retA {vm0 : Vm} {k0 : Nat} (X : Stand p l e R (s.setVm vm0) m args below meth c T locs cells slots) (hS : s.Since vm0 k0) (hk0 : k0 ≤ h.size) (hx : p.tables.exec = Jvm.exec) (eT : T.heap = h) {pc : Nat} {Ls : Array Slot} {w : Value} {t : FieldType} {rest : List Value} (hret : meth.sig.returnType = some t) (ht : t.isReference = true) (hw : w.isRef = true) (hlk : meth.locks = false) (hd : decode c.code pc = .ok (.areturn, 1)) (hk : cells ≤ k) (hn : slots ≤ n) (hQ : Q (some w) h locs) :
    GoesW p e below s Q k n (T.setTop (mkF m pc Ls (w :: rest))) :=
  GoesW.out X hS hk0 eT (own_some hret) hlk (fun fs hr => retOut X hx hret (own_narR ht) (Or.inr (Or.inr (Or.inr (Or.inr ⟨rfl, ht, hw⟩)))) hd hr) hk hn hQ
end OwnW
end Jvm.RoadKit
namespace Jvm.RoadKit
open Sem ClassFile Op Lib Jvm.Stand Jvm.Free Jvm.LawKit
section OwnH
variable {p : Program} {l : Launch} {e : Env} {R : Room} {s : State} {m : MethodId} {args : Array Value} {below : List Frame} {meth : Method} {c : Code} {T : State} {locs : List Loc} {cells slots : Nat} {Q : Option Value → Heap → List Loc → Prop} {k n : Nat} {A B : State} {h : Heap} {Z : State} {a0 : Array Value} {EL : List (String × Nat)}
def GoesH (p : Program) (e : Env) (below : List Frame) (s Z : State) (EL : List (String × Nat)) (Q : Option Value → Heap → List Loc → Prop) (k n : Nat) (A : State) : Prop :=
  ∃ s₂ o, Steps p.tables e below A s₂ ∧ s₂.status = .running ∧ Ended s₂ below o ∧ ∃ v L, o = .returned v ∧ Q v s₂.heap L ∧ CHr Z EL s.vm s.heap s₂.vm s₂.heap ∧ ReturnedEndW s o s₂ L k n
theorem GoesH.step (q : ∀ t, Steps p.tables e below B t → Steps p.tables e below A t) (g : GoesH p e below s Z EL Q k n B) : GoesH p e below s Z EL Q k n A := by
  obtain ⟨s₂, o, h1, h2⟩ := g
  exact ⟨s₂, o, q _ h1, h2⟩
theorem GoesH.via (q : Steps p.tables e below A B) (g : GoesH p e below s Z EL Q k n B) : GoesH p e below s Z EL Q k n A := by
  obtain ⟨s₂, o, h1, h2⟩ := g
  exact ⟨s₂, o, q.trans h1, h2⟩
theorem GoesH.enter {g g' : JFrame} (q : g = g') (h : GoesH p e below s Z EL Q k n (T.setTop g')) : GoesH p e below s Z EL Q k n (T.setTop g) := q ▸ h
theorem GoesH.out {vm0 : Vm} {k0 : Nat} (X : Stand p l e R (s.setVm vm0) m args below meth c T locs cells slots) (hS : s.Since vm0 k0) (hk0 : k0 ≤ h.size) (hZ : Z.Warmed39 (s.setVm vm0).vm) (hEL : EW Z a0 EL) (hCH : CHr Z EL s.vm s.heap vm0 h) (eT : T.heap = h) {v : Option Value} (hv : meth.sig.returnType = none → v = none) (hlk : meth.locks = false)
    (hs : ∀ fs, (∀ (f : JFrame) (acts : List Action), f.method = m → f.locked = none → f.entered = [] → (doReturn e (T.setTop f) acts v).1 = T.setFrames fs) → Steps p.tables e below A (T.setFrames fs)) (hk : cells ≤ k) (hn : slots ≤ n) (hQ : Q v h locs) : GoesH p e below s Z EL Q k n A := by
  obtain ⟨fs, hr, hrun, hended, hW1, hW2, hW3, hW4⟩ := X.leaveW hS (by rw [eT]; exact hk0) (v := v) hv hlk
  exact ⟨_, _, hs fs hr, hrun, hended, _, _, rfl, (by show Q v T.heap locs; rw [eT]; exact hQ), (by show CHr Z EL s.vm s.heap T.vm T.heap; rw [eT]; exact hCH.trans (CHv.at X hZ hEL hCH.1)), hW1, hW2, hW3, hW4.mono hk hn⟩
theorem GoesH.retI {vm0 : Vm} {k0 : Nat} (X : Stand p l e R (s.setVm vm0) m args below meth c T locs cells slots) (hS : s.Since vm0 k0) (hk0 : k0 ≤ h.size) (hZ : Z.Warmed39 (s.setVm vm0).vm) (hEL : EW Z a0 EL) (hCH : CHr Z EL s.vm s.heap vm0 h) (hx : p.tables.exec = Jvm.exec) (eT : T.heap = h) {pc : Nat} {Ls : Array Slot} {z : Int32} {rest : List Value} (hret : meth.sig.returnType = some .int) (hlk : meth.locks = false) (hd : decode c.code pc = .ok (.ireturn, 1)) (hk : cells ≤ k) (hn : slots ≤ n) (hQ : Q (some (.int z)) h locs) :
    GoesH p e below s Z EL Q k n (T.setTop (mkF m pc Ls (.int z :: rest))) :=
  GoesH.out X hS hk0 hZ hEL hCH eT (own_some hret) hlk (fun fs hr => retOut X hx hret rfl (Or.inl ⟨rfl, Or.inl rfl, z, rfl⟩) hd hr) hk hn hQ
theorem GoesH.retN {vm0 : Vm} {k0 : Nat} (X : Stand p l e R (s.setVm vm0) m args below meth c T locs cells slots) (hS : s.Since vm0 k0) (hk0 : k0 ≤ h.size) (hZ : Z.Warmed39 (s.setVm vm0).vm) (hEL : EW Z a0 EL) (hCH : CHr Z EL s.vm s.heap vm0 h) (hx : p.tables.exec = Jvm.exec) (eT : T.heap = h) {pc : Nat} {Ls : Array Slot} {z : Int32} {t : FieldType} {rest : List Value} (hret : meth.sig.returnType = some t) (ht : t = .boolean ∨ t = .byte ∨ t = .char ∨ t = .short) (hlk : meth.locks = false) (hd : decode c.code pc = .ok (.ireturn, 1)) (hk : cells ≤ k) (hn : slots ≤ n) (hQ : Q (some (.int (nar t z))) h locs) :
    GoesH p e below s Z EL Q k n (T.setTop (mkF m pc Ls (.int z :: rest))) :=
  GoesH.out X hS hk0 hZ hEL hCH eT (own_some hret) hlk (fun fs hr => Jvm.RoadKit.retN X hx hret ht hd hr) hk hn hQ
theorem GoesH.retV {vm0 : Vm} {k0 : Nat} (X : Stand p l e R (s.setVm vm0) m args below meth c T locs cells slots) (hS : s.Since vm0 k0) (hk0 : k0 ≤ h.size) (hZ : Z.Warmed39 (s.setVm vm0).vm) (hEL : EW Z a0 EL) (hCH : CHr Z EL s.vm s.heap vm0 h) (hx : p.tables.exec = Jvm.exec) (eT : T.heap = h) {pc : Nat} {Ls : Array Slot} (hret : meth.sig.returnType = none) (hlk : meth.locks = false) (hd : decode c.code pc = .ok (.return_, 1)) (hk : cells ≤ k) (hn : slots ≤ n) (hQ : Q none h locs) :
    GoesH p e below s Z EL Q k n (T.setTop (mkF m pc Ls [])) :=
  GoesH.out X hS hk0 hZ hEL hCH eT (fun _ => rfl) hlk (fun fs hr => X.returnOut hx hret hd hr) hk hn hQ
theorem GoesH.retJ {vm0 : Vm} {k0 : Nat} (X : Stand p l e R (s.setVm vm0) m args below meth c T locs cells slots) (hS : s.Since vm0 k0) (hk0 : k0 ≤ h.size) (hZ : Z.Warmed39 (s.setVm vm0).vm) (hEL : EW Z a0 EL) (hCH : CHr Z EL s.vm s.heap vm0 h) (hx : p.tables.exec = Jvm.exec) (eT : T.heap = h) {pc : Nat} {Ls : Array Slot} {z : Int64} {rest : List Value} (hret : meth.sig.returnType = some .long) (hlk : meth.locks = false) (hd : decode c.code pc = .ok (.lreturn, 1)) (hk : cells ≤ k) (hn : slots ≤ n) (hQ : Q (some (.long z)) h locs) :
    GoesH p e below s Z EL Q k n (T.setTop (mkF m pc Ls (.long z :: rest))) :=
  GoesH.out X hS hk0 hZ hEL hCH eT (own_some hret) hlk (fun fs hr => retOut X hx hret rfl (Or.inr (Or.inl ⟨rfl, rfl, z, rfl⟩)) hd hr) hk hn hQ
theorem GoesH.retA {vm0 : Vm} {k0 : Nat} (X : Stand p l e R (s.setVm vm0) m args below meth c T locs cells slots) (hS : s.Since vm0 k0) (hk0 : k0 ≤ h.size) (hZ : Z.Warmed39 (s.setVm vm0).vm) (hEL : EW Z a0 EL) (hCH : CHr Z EL s.vm s.heap vm0 h) (hx : p.tables.exec = Jvm.exec) (eT : T.heap = h) {pc : Nat} {Ls : Array Slot} {w : Value} {t : FieldType} {rest : List Value} (hret : meth.sig.returnType = some t) (ht : t.isReference = true) (hw : w.isRef = true) (hlk : meth.locks = false) (hd : decode c.code pc = .ok (.areturn, 1)) (hk : cells ≤ k) (hn : slots ≤ n) (hQ : Q (some w) h locs) :
    GoesH p e below s Z EL Q k n (T.setTop (mkF m pc Ls (w :: rest))) :=
  GoesH.out X hS hk0 hZ hEL hCH eT (own_some hret) hlk (fun fs hr => retOut X hx hret (own_narR ht) (Or.inr (Or.inr (Or.inr (Or.inr ⟨rfl, ht, hw⟩)))) hd hr) hk hn hQ
theorem backOfSHs {vm0 : Vm} {x : Addr} {y : MethodName} {bytes : ByteArray} {maxL : Nat} {ret : Option FieldType} {rm : Room} {len W : Nat} {as' : Array Value} {Q : Option Value → Heap → List Loc → Prop}
    (hM : MetFree l y (head1 [Cond.code y bytes maxL ret] rm) (fun a U => a = as' ∧ Z.Warmed39 U.vm ∧ U.heap = h ∧ CHv Z EL U.vm h ∧ Safe Z EL U.vm h x) (fun _ _ _ _ _ => True) (fun _ U o U' => ∃ v L, o = .returned v ∧ Q v U'.heap L ∧ CHr Z EL U.vm U.heap U'.vm U'.heap ∧ ReturnedEndW U o U' L rm.cells rm.slots))
    (hZ : Z.Warmed39 vm0) (wc : (Cond.code y bytes maxL ret).before a0 Z = true) (wz : (Cond.initialized y.cls).before a0 Z = true) (hf : rm.frames + 1 ≤ R.frames) (hl : W + (maxL + 11) + rm.locals ≤ R.locals) (hEL : EW Z a0 EL) (H : CHv Z EL vm0 h) (hx : x < h.size) (S : Safe Z EL vm0 h x) :
    BackS l R p e below (s.setVm vm0) args y len W (fun A a => a = as' ∧ A.U.heap = h ∧ A.cells + rm.cells ≤ R.cells ∧ A.slots + rm.slots ≤ R.slots)
      (fun A _ v B => ∃ L, Q v B.U.heap L ∧ B.locs = A.locs ++ L ∧ B.cells = A.cells + rm.cells ∧ B.slots = A.slots + rm.slots ∧ CHr Z EL vm0 h B.U.vm B.U.heap) :=
  BackS.of_freeW (bytes := bytes) (maxL := maxL) (ret := ret) (E := fun _ first o t L k n => k = rm.cells ∧ n = rm.slots ∧ (∃ v, o = .returned v ∧ Q v t.heap L) ∧ CHr Z EL first.vm first.heap t.vm t.heap) hM hf hl
    (fun m meth c A a Y hp => have hU : Z.Warmed39 A.U.vm := wtrans (s := s.setVm vm0) hZ Y.warmed
      ⟨by show (Cond.and _ .tt).before a A.U = true; rw [Cond.before_and, mv hU wc]; rfl, mv hU wc, mv hU wz, hp.2.2.1, hp.2.2.2⟩)
    (fun m meth c A a g mk Y hp => ⟨hp.1, wtrans (s := s.setVm vm0) hZ Y.warmed, hp.2.1, (CHv.at Y hZ hEL H).1, (CHv.at Y hZ hEL H).safe hx S⟩) (fun _ _ _ _ _ _ _ _ _ => trivial)
    (fun _ _ _ _ ⟨v, L, h1, h2, h3, h4⟩ => ⟨L, _, _, h4, rfl, rfl, ⟨v, h1, h2⟩, h3⟩)
    (fun m meth c A a g mk v t L k n Y hp _ _ ⟨e1, e2, ⟨v', e3, e4⟩, e5⟩ => by
      cases e3; subst e1 e2
      refine ⟨L, e4, rfl, rfl, rfl, (CHv.at Y hZ hEL H).trans ?_⟩
      rw [← hp.2.1]; exact e5)
end OwnH
end Jvm.RoadKit
namespace Jvm.RoadKit
open Sem ClassFile Op Lib Jvm.Stand Jvm.Free Jvm.LawKit
section OwnP
variable {p : Program} {e : Env} {below : List Frame} {T : State} {m : MethodId} {c : Code} {pc pc' : Nat} {Ls l' : Array Slot} {S : List Value}
theorem pw_iload {k : Nat} {v : Int32} (h : At T m c below) (hx : p.tables.exec = Jvm.exec) (hd : decode c.code pc = .ok (.iload k, 2)) (hl : Ls[k]? = some (.val (.int v))) (t : State) (q : Steps p.tables e below (T.setTop (mkF m (pc + 2) Ls (.int v :: S))) t) : Steps p.tables e below (T.setTop (mkF m pc Ls (S))) t := XS.iload (g := mkF m pc Ls (S)) h hx rfl hd hl q
theorem pw_iloadN {k : Fin 4} {v : Int32} (h : At T m c below) (hx : p.tables.exec = Jvm.exec) (hd : decode c.code pc = .ok (.iload_n k, 1)) (hl : Ls[k.val]? = some (.val (.int v))) (t : State) (q : Steps p.tables e below (T.setTop (mkF m (pc + 1) Ls (.int v :: S))) t) : Steps p.tables e below (T.setTop (mkF m pc Ls (S))) t := XS.iloadN (g := mkF m pc Ls (S)) h hx rfl hd hl q
theorem pw_aload {k : Nat} {v : Value} (h : At T m c below) (hx : p.tables.exec = Jvm.exec) (hd : decode c.code pc = .ok (.aload k, 2)) (hl : Ls[k]? = some (.val v)) (hv : v.isRef = true) (t : State) (q : Steps p.tables e below (T.setTop (mkF m (pc + 2) Ls (v :: S))) t) : Steps p.tables e below (T.setTop (mkF m pc Ls (S))) t := XS.aload (g := mkF m pc Ls (S)) h hx rfl hd hl hv q
theorem pw_aloadN {k : Fin 4} {v : Value} (h : At T m c below) (hx : p.tables.exec = Jvm.exec) (hd : decode c.code pc = .ok (.aload_n k, 1)) (hl : Ls[k.val]? = some (.val v)) (hv : v.isRef = true) (t : State) (q : Steps p.tables e below (T.setTop (mkF m (pc + 1) Ls (v :: S))) t) : Steps p.tables e below (T.setTop (mkF m pc Ls (S))) t := XS.aloadN (g := mkF m pc Ls (S)) h hx rfl hd hl hv q
theorem pw_istore {k : Nat} {x : Int32} (h : At T m c below) (hx : p.tables.exec = Jvm.exec) (hd : decode c.code pc = .ok (.istore k, 2)) (hl : storeLocals Ls k (.int x) = some l') (t : State) (q : Steps p.tables e below (T.setTop (mkF m (pc + 2) l' (S))) t) : Steps p.tables e below (T.setTop (mkF m pc Ls (.int x :: S))) t := XS.istore (g := mkF m pc Ls (.int x :: S)) h hx rfl hd rfl hl q
theorem pw_istoreN {k : Fin 4} {x : Int32} (h : At T m c below) (hx : p.tables.exec = Jvm.exec) (hd : decode c.code pc = .ok (.istore_n k, 1)) (hl : storeLocals Ls k.val (.int x) = some l') (t : State) (q : Steps p.tables e below (T.setTop (mkF m (pc + 1) l' (S))) t) : Steps p.tables e below (T.setTop (mkF m pc Ls (.int x :: S))) t := XS.istoreN (g := mkF m pc Ls (.int x :: S)) h hx rfl hd rfl hl q
theorem pw_astore {k : Nat} {x : Value} (h : At T m c below) (hx : p.tables.exec = Jvm.exec) (hd : decode c.code pc = .ok (.astore k, 2)) (hv : x.isRef = true) (hl : storeLocals Ls k x = some l') (t : State) (q : Steps p.tables e below (T.setTop (mkF m (pc + 2) l' (S))) t) : Steps p.tables e below (T.setTop (mkF m pc Ls (x :: S))) t := XS.astore (g := mkF m pc Ls (x :: S)) h hx rfl hd rfl hv hl q
theorem pw_astoreN {k : Fin 4} {x : Value} (h : At T m c below) (hx : p.tables.exec = Jvm.exec) (hd : decode c.code pc = .ok (.astore_n k, 1)) (hv : x.isRef = true) (hl : storeLocals Ls k.val x = some l') (t : State) (q : Steps p.tables e below (T.setTop (mkF m (pc + 1) l' (S))) t) : Steps p.tables e below (T.setTop (mkF m pc Ls (x :: S))) t := XS.astoreN (g := mkF m pc Ls (x :: S)) h hx rfl hd rfl hv hl q
theorem pw_iconst {i : Int} {v : Int32} (h : At T m c below) (hx : p.tables.exec = Jvm.exec) (hd : decode c.code pc = .ok (.iconst i, 1)) (hv : Int32.ofInt i = v) (t : State) (q : Steps p.tables e below (T.setTop (mkF m (pc + 1) Ls (.int v :: S))) t) : Steps p.tables e below (T.setTop (mkF m pc Ls (S))) t := by
  subst hv
  exact XS.iconst (g := mkF m pc Ls (S)) h hx rfl hd q
theorem pw_bipush {i : Int} {v : Int32} (h : At T m c below) (hx : p.tables.exec = Jvm.exec) (hd : decode c.code pc = .ok (.bipush i, 2)) (hv : (Int8.ofInt i).toInt32 = v) (t : State) (q : Steps p.tables e below (T.setTop (mkF m (pc + 2) Ls (.int v :: S))) t) : Steps p.tables e below (T.setTop (mkF m pc Ls (S))) t := by
  subst hv
  exact XS.bipush (g := mkF m pc Ls (S)) h hx rfl hd q
theorem pw_sipush {i : Int} {v : Int32} (h : At T m c below) (hx : p.tables.exec = Jvm.exec) (hd : decode c.code pc = .ok (.sipush i, 3)) (hv : (Int16.ofInt i).toInt32 = v) (t : State) (q : Steps p.tables e below (T.setTop (mkF m (pc + 3) Ls (.int v :: S))) t) : Steps p.tables e below (T.setTop (mkF m pc Ls (S))) t := by
  subst hv
  exact XS.sipush (g := mkF m pc Ls (S)) h hx rfl hd q
theorem pw_aconstNull  (h : At T m c below) (hx : p.tables.exec = Jvm.exec) (hd : decode c.code pc = .ok (.aconst_null, 1)) (t : State) (q : Steps p.tables e below (T.setTop (mkF m (pc + 1) Ls (.null :: S))) t) : Steps p.tables e below (T.setTop (mkF m pc Ls (S))) t := XS.aconstNull (g := mkF m pc Ls (S)) h hx rfl hd q
theorem pw_iadd {x y : Int32} (h : At T m c below) (hx : p.tables.exec = Jvm.exec) (hd : decode c.code pc = .ok (.iadd, 1)) (t : State) (q : Steps p.tables e below (T.setTop (mkF m (pc + 1) Ls (.int (x + y) :: S))) t) : Steps p.tables e below (T.setTop (mkF m pc Ls (.int y :: .int x :: S))) t := XS.iadd (g := mkF m pc Ls (.int y :: .int x :: S)) h hx rfl hd rfl q
theorem pw_isub {x y : Int32} (h : At T m c below) (hx : p.tables.exec = Jvm.exec) (hd : decode c.code pc = .ok (.isub, 1)) (t : State) (q : Steps p.tables e below (T.setTop (mkF m (pc + 1) Ls (.int (x - y) :: S))) t) : Steps p.tables e below (T.setTop (mkF m pc Ls (.int y :: .int x :: S))) t := XS.isub (g := mkF m pc Ls (.int y :: .int x :: S)) h hx rfl hd rfl q
theorem pw_iand {x y : Int32} (h : At T m c below) (hx : p.tables.exec = Jvm.exec) (hd : decode c.code pc = .ok (.iand, 1)) (t : State) (q : Steps p.tables e below (T.setTop (mkF m (pc + 1) Ls (.int (x &&& y) :: S))) t) : Steps p.tables e below (T.setTop (mkF m pc Ls (.int y :: .int x :: S))) t := XS.iand (g := mkF m pc Ls (.int y :: .int x :: S)) h hx rfl hd rfl q
theorem pw_dup {x : Value} (h : At T m c below) (hx : p.tables.exec = Jvm.exec) (hd : decode c.code pc = .ok (.dup, 1)) (hc : x.category = 1) (t : State) (q : Steps p.tables e below (T.setTop (mkF m (pc + 1) Ls (x :: x :: S))) t) : Steps p.tables e below (T.setTop (mkF m pc Ls (x :: S))) t := XS.dup (g := mkF m pc Ls (x :: S)) h hx rfl hd rfl hc q
theorem pw_pop {x : Value} (h : At T m c below) (hx : p.tables.exec = Jvm.exec) (hd : decode c.code pc = .ok (.pop, 1)) (hc : x.category = 1) (t : State) (q : Steps p.tables e below (T.setTop (mkF m (pc + 1) Ls (S))) t) : Steps p.tables e below (T.setTop (mkF m pc Ls (x :: S))) t := XS.pop (g := mkF m pc Ls (x :: S)) h hx rfl hd rfl hc q
theorem pw_iinc {k : Nat} {cst : Int} {x : Int32} (h : At T m c below) (hx : p.tables.exec = Jvm.exec) (hd : decode c.code pc = .ok (.iinc k cst, 3)) (hl : Ls[k]? = some (.val (.int x))) (hl' : storeLocals Ls k (.int (x + Int32.ofInt cst)) = some l') (t : State) (q : Steps p.tables e below (T.setTop (mkF m (pc + 3) l' (S))) t) : Steps p.tables e below (T.setTop (mkF m pc Ls (S))) t := XS.iinc (g := mkF m pc Ls (S)) h hx rfl hd hl hl' q
theorem pw_goto {o : Int} (h : At T m c below) (hx : p.tables.exec = Jvm.exec) (hd : decode c.code pc = .ok (.goto o, 3)) (ho : 0 ≤ (pc : Int) + o) (hp : ((pc : Int) + o).toNat = pc') (t : State) (q : Steps p.tables e below (T.setTop (mkF m pc' Ls (S))) t) : Steps p.tables e below (T.setTop (mkF m pc Ls (S))) t := XS.goto (g := mkF m pc Ls (S)) h hx rfl (pc0 := pc) (pc' := pc') rfl hd ho hp q
theorem pw_ifYes {cd : ClassFile.Cond} {x : Int32} {o : Int} (h : At T m c below) (hx : p.tables.exec = Jvm.exec) (hd : decode c.code pc = .ok (.ifCond cd o, 3)) (hc : ifCond.holds cd x = true) (ho : 0 ≤ (pc : Int) + o) (hp : ((pc : Int) + o).toNat = pc') (t : State) (q : Steps p.tables e below (T.setTop (mkF m pc' Ls (S))) t) : Steps p.tables e below (T.setTop (mkF m pc Ls (.int x :: S))) t := XS.ifYes (g := mkF m pc Ls (.int x :: S)) h hx rfl (pc0 := pc) (pc' := pc') rfl hd rfl hc ho hp q
theorem pw_ifNo {cd : ClassFile.Cond} {x : Int32} {o : Int} (h : At T m c below) (hx : p.tables.exec = Jvm.exec) (hd : decode c.code pc = .ok (.ifCond cd o, 3)) (hc : ifCond.holds cd x = false) (t : State) (q : Steps p.tables e below (T.setTop (mkF m (pc + 3) Ls (S))) t) : Steps p.tables e below (T.setTop (mkF m pc Ls (.int x :: S))) t := XS.ifNo (g := mkF m pc Ls (.int x :: S)) h hx rfl hd rfl hc q
theorem pw_icmpYes {cd : ClassFile.Cond} {x y : Int32} {o : Int} (h : At T m c below) (hx : p.tables.exec = Jvm.exec) (hd : decode c.code pc = .ok (.if_icmp cd o, 3)) (hc : if_icmp.holds cd x y = true) (ho : 0 ≤ (pc : Int) + o) (hp : ((pc : Int) + o).toNat = pc') (t : State) (q : Steps p.tables e below (T.setTop (mkF m pc' Ls (S))) t) : Steps p.tables e below (T.setTop (mkF m pc Ls (.int y :: .int x :: S))) t := XS.icmpYes (g := mkF m pc Ls (.int y :: .int x :: S)) h hx rfl (pc0 := pc) (pc' := pc') rfl hd rfl hc ho hp q
theorem pw_icmpNo {cd : ClassFile.Cond} {x y : Int32} {o : Int} (h : At T m c below) (hx : p.tables.exec = Jvm.exec) (hd : decode c.code pc = .ok (.if_icmp cd o, 3)) (hc : if_icmp.holds cd x y = false) (t : State) (q : Steps p.tables e below (T.setTop (mkF m (pc + 3) Ls (S))) t) : Steps p.tables e below (T.setTop (mkF m pc Ls (.int y :: .int x :: S))) t := XS.icmpNo (g := mkF m pc Ls (.int y :: .int x :: S)) h hx rfl hd rfl hc q
end OwnP
end Jvm.RoadKit
namespace Jvm.Pilot.@@N@@
open Jvm Jvm.ClassFile Sem Op Lib Jvm.Free Jvm.Stand Jvm.LawKit Jvm.RoadKit Bundle Jvm.Pilot.@@N@@.Jvm.D
def own_EL : List (String × Nat) := [("java/lang/String", 7), ("java/lang/StringLatin1", 151)]
theorem own_EW {Z : State} {a0 : Array Value} (hw : ∀ d ∈ tables_1, d.before a0 Z = true) : EW Z a0 own_EL := (EW.cons (hw _ (List.mem_of_getElem? (i := 19) rfl)) (by decide) (EW.cons (hw _ (List.mem_of_getElem? (i := 112) rfl)) (by decide) (fun p hp => nomatch hp)))
theorem own_eqI {args : Array Value} {first s : State} {o : Option Outcome} {idx : List Nat} {t : Term} {v : Int32} (h : (Jvm.Cond.eq t (.int v)).value args first o s idx = some true) : t.eval args first o idx s = some (.int v) := by
  obtain ⟨x, y, hx, hy, k1, k2⟩ := cmp_v (Or.inl h)
  rw [Term.int_eval] at hy
  obtain rfl := Option.some.inj hy
  obtain ⟨z, rfl⟩ := k2
  have q : z = v := by simpa [Jvm.Cond.value, hx, Term.int_eval] using h
  rw [hx, q]
theorem own_eqR {args : Array Value} {first s : State} {o : Option Outcome} {idx : List Nat} {t u : Term} {a : Addr} (hu : u.eval args first o idx s = some (.ref a)) (h : (Jvm.Cond.eq t u).value args first o s idx = some true) : t.eval args first o idx s = some (.ref a) := by
  obtain ⟨x, y, hx, hy, k1, k2⟩ := cmp_v (Or.inl h)
  obtain rfl := Option.some.inj (hu.symm.trans hy)
  obtain ⟨-, q⟩ := k2
  have q2 := gotT (eq_R hx hu q rfl) h
  rw [hx, q2]
theorem own_len {args : Array Value} {s : State} {t : Term} {n : Int32} {a : Addr} {cl : Cell} {ty : FieldType} (A : Arr s s.heap a cl ty) (ev : t.eval args s none [] s = some (.ref a)) (h : (Jvm.Cond.eq (.length t) (.int n)).value args s none s [] = some true) : cl.slots.size < 2 ^ 31 ∧ cl.slots.size.toInt32 = n := by
  have q := own_eqI h
  have f := A.fin (Vm.Alike.refl _)
  by_cases hl : cl.slots.size < 2 ^ 31
  · rw [len_f ev f hl] at q
    exact ⟨hl, Value.int.inj (Option.some.inj q)⟩
  · simp [Term.eval, ev, f, hl] at q
theorem own_el {args : Array Value} {s : State} {t : Term} {j v : Int32} {a : Addr} {cl : Cell} {ty : FieldType} (A : Arr s s.heap a cl ty) (ev : t.eval args s none [] s = some (.ref a)) (h : (Jvm.Cond.eq (.elem t (.int j)) (.int v)).value args s none s [] = some true) : cl.slots[j.toNatClampNeg]? = some (.int v) := (elem_in (own_eqI h) ev (Term.int_eval j) A.1).2
theorem own_elR {args : Array Value} {s : State} {t u : Term} {j : Int32} {a b : Addr} {cl : Cell} {ty : FieldType} (A : Arr s s.heap a cl ty) (ev : t.eval args s none [] s = some (.ref a)) (hu : u.eval args s none [] s = some (.ref b)) (h : (Jvm.Cond.eq (.elem t (.int j)) u).value args s none s [] = some true) : cl.slots[j.toNatClampNeg]? = some (.ref b) := (elem_in (own_eqR hu h) ev (Term.int_eval j) A.1).2
theorem own_refc {v : Value} (h : v.isRef = true) : v = .null ∨ ∃ r, v = .ref r := by cases v <;> simp_all [Value.isRef]
theorem own_isRef {args : Array Value} {first s : State} {o : Option Outcome} {idx : List Nat} {t : Term} (h : (Jvm.Cond.isRef t).value args first o s idx = some true) : ∃ v, t.eval args first o idx s = some v ∧ v.isRef = true := by
  cases q : t.eval args first o idx s with
  | none => simp [Jvm.Cond.value, q] at h
  | some v => cases v <;> simp_all [Jvm.Cond.value, Value.isRef]
def OwnSt (Z : State) (cs : Int32) (fm : Value) : Prop := Sta Z Z.heap "java/lang/String" "COMPACT_STRINGS" "Z" (.int cs) ∧ ¬ cs = (0 : Int32) ∧ Sta Z Z.heap "jdk/internal/util/Preconditions" "SIOOBE_FORMATTER" "Ljava/util/function/BiFunction;" fm ∧ fm.isRef = true
def own_ok (c : Int32) : Prop := 0 ≤ c.toInt ∧ c.toInt ≤ 255
theorem own_lt0 {a b : Int32} (h : a < b) : a.toInt < b.toInt := Int32.lt_iff_toInt_lt.mp h
theorem own_lt {a b : Int32} (h : a.toInt < b.toInt) : a < b := Int32.lt_iff_toInt_lt.mpr h
theorem own_nlt {a b : Int32} (h : b.toInt ≤ a.toInt) : ¬ a < b := fun q => by have := Int32.lt_iff_toInt_lt.mp q; omega
theorem own_nlt' {a b : Int32} (h : ¬ a < b) : b.toInt ≤ a.toInt := by rw [Int32.lt_iff_toInt_lt] at h; omega
theorem own_nat {j : Int32} (h : 0 ≤ j.toInt) : (j.toNatClampNeg : Int) = j.toInt := by
  have q : j.toNatClampNeg = j.toInt.toNat := rfl
  rw [q]
  omega
theorem own_i0 : (0 : Int32).toInt = 0 := by decide
theorem own_i255 : (255 : Int32).toInt = 255 := by decide
theorem own_nr {r : Int32} (h : own_ok r) : nar .char r = r := by
  obtain ⟨h0, h1⟩ := h
  have a := c_i2c r
  exact Int32.toInt_inj.mp (by show r.toUInt32.toUInt16.toUInt32.toInt32.toInt = r.toInt; omega)
theorem own_le {r : Int32} (h : own_ok r) : ¬ (255 : Int32) < r := own_nlt (by rw [own_i255]; exact h.2)
theorem own_okn {z : Int32} (h0 : 0 ≤ z.toInt) (h1 : z.toInt ≤ 255) : own_ok (nar .char z) := by
  rw [own_nr ⟨h0, h1⟩]
  exact ⟨h0, h1⟩
theorem own_okm (x : Int32) : own_ok (nar .char ((x &&& (255 : Int32)).toUInt32.toUInt16.toUInt32.toInt32)) := by
  have a := c_mask x 255 8 (by decide) (by decide)
  rw [i2c_mask]
  exact own_okn (by omega) (by omega)
theorem own_okc31 (x : Int32) : own_ok (nar .char ((x &&& (31 : Int32)).toUInt32.toUInt16.toUInt32.toInt32)) := by
  have a := c_mask x 31 5 (by decide) (by decide)
  have e : (x &&& (31 : Int32)).toUInt32.toUInt16.toUInt32.toInt32 = x &&& (31 : Int32) := own_nr ⟨by omega, by omega⟩
  rw [e]
  exact own_okn (by omega) (by omega)
def own_b (c : Int32) : Int32 := nar .byte (c.toInt8.toInt32)
def own_c (y : Int32) : Int32 := (y &&& (255 : Int32)).toUInt32.toUInt16.toUInt32.toInt32
theorem own_bi (c : Int32) : ((own_b c).toInt - c.toInt) % 256 = 0 ∧ -128 ≤ (own_b c).toInt ∧ (own_b c).toInt < 128 := by
  have a := c_i2b c
  have b := c_i2b (c.toInt8.toInt32)
  have e : own_b c = (c.toInt8.toInt32).toInt8.toInt32 := rfl
  rw [e]
  omega
theorem own_bc {c : Int32} (h : own_ok c) : own_c (own_b c) = c := by
  obtain ⟨h0, h1⟩ := h
  have a := own_bi c
  have b := c_mask (own_b c) 255 8 (by decide) (by decide)
  unfold own_c
  rw [i2c_mask]
  exact Int32.toInt_inj.mp (by omega)
theorem own_beq {c k : Int32} (h : own_ok c) (k0 : 0 ≤ k.toInt) (k1 : k.toInt < 128) : own_b c = k ↔ c = k := by
  obtain ⟨h0, h1⟩ := h
  have a := own_bi c
  rw [← Int32.toInt_inj, ← Int32.toInt_inj (x := c)]
  omega
theorem own_sh0 (z : Int32) : some (Value.int (z >>> ((0 : Int32) &&& 31))) = some (Value.int z) := by
  have e : z >>> ((0 : Int32) &&& 31) = z := by
    rw [show ((0 : Int32) &&& 31) = 0 from by decide]
    exact Int32.toInt_inj.mp (by simp)
  rw [e]
theorem own_ncS (y : Int32) : some (Value.int (nar .char ((y &&& (255 : Int32)).toUInt32.toUInt16.toUInt32.toInt32))) = some (Value.int (own_c y)) := by
  have a := c_mask y 255 8 (by decide) (by decide)
  unfold own_c
  rw [i2c_mask, own_nr ⟨by omega, by omega⟩]
theorem own_nc2 (y : Int32) : some (Value.int (nar .char (own_c y))) = some (Value.int (own_c y)) := by
  have a := c_mask y 255 8 (by decide) (by decide)
  unfold own_c
  rw [i2c_mask, own_nr ⟨by omega, by omega⟩]
theorem own_getD (xs : List Int32) (j : Nat) : (xs.map Value.int).getD j (.int 0) = .int (xs.getD j 0) := by
  simp only [List.getD, List.getElem?_map]
  cases xs[j]? <;> rfl
def own_sub (xs : List Int32) (b m : Int32) : List Int32 := (List.range m.toNatClampNeg).map fun i => xs.getD (b.toNatClampNeg + i) 0
theorem own_subg (xs : List Int32) (b m : Int32) (i : Nat) (h : i < m.toNatClampNeg) : (own_sub xs b m).getD i 0 = xs.getD (b.toNatClampNeg + i) 0 := by
  simp [own_sub, List.getD, h]
theorem own_sub0 (xs : List Int32) (b : Int32) : (own_sub xs b (0 : Int32)).map Value.int = [] := by
  have e : (0 : Int32).toNatClampNeg = 0 := by decide
  simp [own_sub, e]
theorem own_suba (xs : List Int32) (z : Int32) (h : z.toNatClampNeg = xs.length) : own_sub xs (0 : Int32) z = xs := by
  have e : (0 : Int32).toNatClampNeg = 0 := by decide
  unfold own_sub
  rw [e, h]
  apply List.ext_getElem
  · simp
  · intro i h1 h2
    simp [List.getD, h2]
theorem own_cp (xs : List Int32) (b m : Int32) (d : Value) : (List.replicate m.toNatClampNeg d).take (0 : Int32).toNatClampNeg ++ ((List.range m.toNatClampNeg).map fun i => (xs.map Value.int).getD (b.toNatClampNeg + i) (.int 0)) ++ (List.replicate m.toNatClampNeg d).drop ((0 : Int32).toNatClampNeg + m.toNatClampNeg) = (own_sub xs b m).map Value.int := by
  have e : (0 : Int32).toNatClampNeg = 0 := by decide
  rw [e]
  simp only [List.take_zero, List.nil_append, Nat.zero_add, own_sub, List.map_map]
  rw [List.drop_eq_nil_of_le (by simp), List.append_nil]
  apply List.map_congr_left
  intro i _
  exact own_getD xs _
def own_min (a b : Int32) : Int32 := if b < a then b else a
theorem own_mnq {a b : Int32} (h : b.toInt ≤ a.toInt) : own_min a b = b := by
  unfold own_min
  by_cases q : b < a
  · exact if_pos q
  · rw [if_neg q]
    have := own_nlt' q
    exact Int32.toInt_inj.mp (by omega)
theorem own_dif {m e b : Int32} (h : m = e - b) (h0 : 0 ≤ b.toInt) (h1 : b.toInt ≤ e.toInt) : m.toInt = e.toInt - b.toInt := by
  have a := c_isub e b
  have r := rng32 m
  have r2 := rng32 e
  rw [← h] at a
  omega
theorem own_sm {m e b : Int32} (h : e = b + m) (h0 : 0 ≤ b.toInt) (h1 : 0 ≤ m.toInt) (h2 : b.toInt + m.toInt ≤ 5) : e.toInt = b.toInt + m.toInt := by
  have a := c_iadd b m
  have r := rng32 e
  rw [← h] at a
  omega
theorem own_sd {m q e b : Int32} (h : e = b + m) (h' : q = e - b) (h0 : 0 ≤ b.toInt) (h1 : 0 ≤ m.toInt) (h2 : b.toInt + m.toInt ≤ 5) : q = m := by
  have e1 := own_sm h h0 h1 h2
  have e2 := own_dif h' h0 (by omega)
  exact Int32.toInt_inj.mp (by omega)
theorem own_bb {b k : Int32} {n : Int} (h : b = k + 1) (hk : -1 ≤ k.toInt ∧ k.toInt < n) (hn : n ≤ 5) : 0 ≤ b.toInt ∧ b.toInt ≤ n := by
  have a := c_iadd k 1
  have e1 : (1 : Int32).toInt = 1 := by decide
  have r := rng32 b
  rw [← h] at a
  omega
theorem own_ne0 {b : Int32} (h : 0 < b.toInt) : ¬ b = (0 : Int32) := fun q => by
  rw [q, own_i0] at h
  omega
theorem own_eq0' {m : Int32} (h : m.toInt = 0) : m = (0 : Int32) := Int32.toInt_inj.mp (by rw [h, own_i0])
theorem own_pos {m : Int32} (h : 0 ≤ m.toInt) (q : ¬ m = (0 : Int32)) : 0 < m.toInt := by
  rcases Int.lt_or_eq_of_le h with h | h
  · exact h
  · exact absurd (own_eq0' h.symm) q
def own_max (a b : Int32) : Int32 := if a < b then b else a
theorem own_maxs (a : Int32) : own_max a a = a := by
  unfold own_max
  split <;> rfl
theorem own_z0 (z : Int32) : z - (0 : Int32) = z := by
  have a := c_isub z 0
  have r := rng32 z
  have r2 := rng32 (z - (0 : Int32))
  rw [own_i0] at a
  exact Int32.toInt_inj.mp (by omega)
theorem own_subl (xs : List Int32) (b m : Int32) : m.toNatClampNeg = (own_sub xs b m).length := by simp [own_sub]
theorem own_bm {c : Int32} (h : own_ok c) : own_b c &&& (255 : Int32) = c := by
  obtain ⟨h0, h1⟩ := h
  have a := own_bi c
  have b := c_mask (own_b c) 255 8 (by decide) (by decide)
  exact Int32.toInt_inj.mp (by omega)
def own_lq (i e c p : Int32) : Int32 := if i < e then (if (32 : Int32) < c then i else p) else p
theorem own_lqs {i e c p : Int32} (h : ¬ i < e) : own_lq i e c p = p := if_neg h
def own_ix0 (k : Int32)  : Int32 := (-1 : Int32)
def own_lo0  : Int32 := (0 : Int32)
def own_hi0  : Int32 := (0 : Int32)
def own_e0  : Int32 := (0 : Int32)
def own_ix1 (k : Int32) (x0 : Int32) : Int32 := (if x0 = k.toInt8.toInt32 then (0 : Int32) else (-1 : Int32))
def own_lo1 (x0 : Int32) : Int32 := (if (32 : Int32) < (x0 &&& (255 : Int32)) then (0 : Int32) else (1 : Int32))
def own_hi1 (x0 : Int32) : Int32 := (if (32 : Int32) < (x0 &&& (255 : Int32)) then (1 : Int32) else (1 : Int32))
def own_e1 (x0 : Int32) : Int32 := (if x0 = (59 : Int32) then (0 : Int32) else (1 : Int32))
def own_ix2 (k : Int32) (x0 x1 : Int32) : Int32 := (if x0 = k.toInt8.toInt32 then (0 : Int32) else (if x1 = k.toInt8.toInt32 then (1 : Int32) else (-1 : Int32)))
def own_lo2 (x0 x1 : Int32) : Int32 := (if (32 : Int32) < (x0 &&& (255 : Int32)) then (0 : Int32) else (if (32 : Int32) < (x1 &&& (255 : Int32)) then (1 : Int32) else (2 : Int32)))
def own_hi2 (x0 x1 : Int32) : Int32 := (if (32 : Int32) < (x0 &&& (255 : Int32)) then (if (32 : Int32) < (x1 &&& (255 : Int32)) then (2 : Int32) else (1 : Int32)) else (if (32 : Int32) < (x1 &&& (255 : Int32)) then (2 : Int32) else (2 : Int32)))
def own_e2 (x0 x1 : Int32) : Int32 := (if x0 = (59 : Int32) then (0 : Int32) else (if x1 = (59 : Int32) then (1 : Int32) else (2 : Int32)))
def own_ix3 (k : Int32) (x0 x1 x2 : Int32) : Int32 := (if x0 = k.toInt8.toInt32 then (0 : Int32) else (if x1 = k.toInt8.toInt32 then (1 : Int32) else (if x2 = k.toInt8.toInt32 then (2 : Int32) else (-1 : Int32))))
def own_lo3 (x0 x1 x2 : Int32) : Int32 := (if (32 : Int32) < (x0 &&& (255 : Int32)) then (0 : Int32) else (if (32 : Int32) < (x1 &&& (255 : Int32)) then (1 : Int32) else (if (32 : Int32) < (x2 &&& (255 : Int32)) then (2 : Int32) else (3 : Int32))))
def own_hi3 (x0 x1 x2 : Int32) : Int32 := (if (32 : Int32) < (x0 &&& (255 : Int32)) then (if (32 : Int32) < (x2 &&& (255 : Int32)) then (3 : Int32) else (if (32 : Int32) < (x1 &&& (255 : Int32)) then (2 : Int32) else (1 : Int32))) else (if (32 : Int32) < (x1 &&& (255 : Int32)) then (if (32 : Int32) < (x2 &&& (255 : Int32)) then (3 : Int32) else (2 : Int32)) else (if (32 : Int32) < (x2 &&& (255 : Int32)) then (3 : Int32) else (3 : Int32))))
def own_e3 (x0 x1 x2 : Int32) : Int32 := (if x0 = (59 : Int32) then (0 : Int32) else (if x1 = (59 : Int32) then (1 : Int32) else (if x2 = (59 : Int32) then (2 : Int32) else (3 : Int32))))
def own_ix4 (k : Int32) (x0 x1 x2 x3 : Int32) : Int32 := (if x0 = k.toInt8.toInt32 then (0 : Int32) else (if x1 = k.toInt8.toInt32 then (1 : Int32) else (if x2 = k.toInt8.toInt32 then (2 : Int32) else (if x3 = k.toInt8.toInt32 then (3 : Int32) else (-1 : Int32)))))
def own_lo4 (x0 x1 x2 x3 : Int32) : Int32 := (if (32 : Int32) < (x0 &&& (255 : Int32)) then (0 : Int32) else (if (32 : Int32) < (x1 &&& (255 : Int32)) then (1 : Int32) else (if (32 : Int32) < (x2 &&& (255 : Int32)) then (2 : Int32) else (if (32 : Int32) < (x3 &&& (255 : Int32)) then (3 : Int32) else (4 : Int32)))))
def own_hi4 (x0 x1 x2 x3 : Int32) : Int32 := (if (32 : Int32) < (x0 &&& (255 : Int32)) then (if (32 : Int32) < (x3 &&& (255 : Int32)) then (4 : Int32) else (if (32 : Int32) < (x2 &&& (255 : Int32)) then (3 : Int32) else (if (32 : Int32) < (x1 &&& (255 : Int32)) then (2 : Int32) else (1 : Int32)))) else (if (32 : Int32) < (x1 &&& (255 : Int32)) then (if (32 : Int32) < (x3 &&& (255 : Int32)) then (4 : Int32) else (if (32 : Int32) < (x2 &&& (255 : Int32)) then (3 : Int32) else (2 : Int32))) else (if (32 : Int32) < (x2 &&& (255 : Int32)) then (if (32 : Int32) < (x3 &&& (255 : Int32)) then (4 : Int32) else (3 : Int32)) else (if (32 : Int32) < (x3 &&& (255 : Int32)) then (4 : Int32) else (4 : Int32)))))
def own_e4 (x0 x1 x2 x3 : Int32) : Int32 := (if x0 = (59 : Int32) then (0 : Int32) else (if x1 = (59 : Int32) then (1 : Int32) else (if x2 = (59 : Int32) then (2 : Int32) else (if x3 = (59 : Int32) then (3 : Int32) else (4 : Int32)))))
def own_ixx (k : Int32) : List Int32 → Int32
  | [] => own_ix0 k
  | [x0] => own_ix1 k x0
  | [x0, x1] => own_ix2 k x0 x1
  | [x0, x1, x2] => own_ix3 k x0 x1 x2
  | [x0, x1, x2, x3] => own_ix4 k x0 x1 x2 x3
  | _ => (-1 : Int32)
def own_lo : List Int32 → Int32
  | [] => own_lo0
  | [x0] => own_lo1 x0
  | [x0, x1] => own_lo2 x0 x1
  | [x0, x1, x2] => own_lo3 x0 x1 x2
  | [x0, x1, x2, x3] => own_lo4 x0 x1 x2 x3
  | _ => (0 : Int32)
def own_hi : List Int32 → Int32
  | [] => own_hi0
  | [x0] => own_hi1 x0
  | [x0, x1] => own_hi2 x0 x1
  | [x0, x1, x2] => own_hi3 x0 x1 x2
  | [x0, x1, x2, x3] => own_hi4 x0 x1 x2 x3
  | _ => (0 : Int32)
def own_ys (xs : List Int32) : List Int32 := if own_ixx (59 : Int32) xs < (0 : Int32) then xs else own_sub xs (0 : Int32) (own_ixx (59 : Int32) xs)
theorem own_l5 {z : Int32} {xs : List Int32} (h : z.toNatClampNeg = xs.length) (h4 : z.toInt ≤ 4) (h0 : ¬ z < 0) : (z = 0 ∧ xs = []) ∨ (∃ x0, z = 1 ∧ xs = [x0]) ∨ (∃ x0 x1, z = 2 ∧ xs = [x0, x1]) ∨ (∃ x0 x1 x2, z = 3 ∧ xs = [x0, x1, x2]) ∨ (∃ x0 x1 x2 x3, z = 4 ∧ xs = [x0, x1, x2, x3]) := by
  have q := own_nat (j := z) (by have := own_nlt' h0; rw [own_i0] at this; exact this)
  match xs, h with
  | [], h => exact Or.inl ⟨Int32.toInt_inj.mp (by rw [← q, h]; show ((0 : Nat) : Int) = (0 : Int32).toInt; decide), rfl⟩
  | [x0], h => exact Or.inr (Or.inl ⟨x0, Int32.toInt_inj.mp (by rw [← q, h]; show ((1 : Nat) : Int) = (1 : Int32).toInt; decide), rfl⟩)
  | [x0, x1], h => exact Or.inr (Or.inr (Or.inl ⟨x0, x1, Int32.toInt_inj.mp (by rw [← q, h]; show ((2 : Nat) : Int) = (2 : Int32).toInt; decide), rfl⟩))
  | [x0, x1, x2], h => exact Or.inr (Or.inr (Or.inr (Or.inl ⟨x0, x1, x2, Int32.toInt_inj.mp (by rw [← q, h]; show ((3 : Nat) : Int) = (3 : Int32).toInt; decide), rfl⟩)))
  | [x0, x1, x2, x3], h => exact Or.inr (Or.inr (Or.inr (Or.inr (⟨x0, x1, x2, x3, Int32.toInt_inj.mp (by rw [← q, h]; show ((4 : Nat) : Int) = (4 : Int32).toInt; decide), rfl⟩))))
  | _ :: _ :: _ :: _ :: _ :: _, h => simp only [List.length_cons] at h; omega
theorem own_lh0 : 0 ≤ (own_lo0).toInt ∧ (own_lo0).toInt ≤ (own_hi0).toInt ∧ (own_hi0).toInt ≤ 0 := by
  decide
theorem own_ib0 (k : Int32) : -1 ≤ (own_ix0 k).toInt ∧ (own_ix0 k).toInt < 0 := by
  unfold own_ix0
  decide
theorem own_lh1 (x0 : Int32) : 0 ≤ (own_lo1 x0).toInt ∧ (own_lo1 x0).toInt ≤ (own_hi1 x0).toInt ∧ (own_hi1 x0).toInt ≤ 1 := by
  by_cases p0 : (32 : Int32) < (x0 &&& (255 : Int32))
  · simp only [own_lo1, own_hi1, if_pos p0] <;> decide
  · simp only [own_lo1, own_hi1, if_neg p0] <;> decide
theorem own_ib1 (k : Int32) (x0 : Int32) : -1 ≤ (own_ix1 k x0).toInt ∧ (own_ix1 k x0).toInt < 1 := by
  unfold own_ix1
  repeat' split
  all_goals decide
theorem own_lh2 (x0 x1 : Int32) : 0 ≤ (own_lo2 x0 x1).toInt ∧ (own_lo2 x0 x1).toInt ≤ (own_hi2 x0 x1).toInt ∧ (own_hi2 x0 x1).toInt ≤ 2 := by
  by_cases p0 : (32 : Int32) < (x0 &&& (255 : Int32))
  · by_cases p1 : (32 : Int32) < (x1 &&& (255 : Int32))
    · simp only [own_lo2, own_hi2, if_pos p0, if_pos p1] <;> decide
    · simp only [own_lo2, own_hi2, if_pos p0, if_neg p1] <;> decide
  · by_cases p1 : (32 : Int32) < (x1 &&& (255 : Int32))
    · simp only [own_lo2, own_hi2, if_neg p0, if_pos p1] <;> decide
    · simp only [own_lo2, own_hi2, if_neg p0, if_neg p1] <;> decide
theorem own_ib2 (k : Int32) (x0 x1 : Int32) : -1 ≤ (own_ix2 k x0 x1).toInt ∧ (own_ix2 k x0 x1).toInt < 2 := by
  unfold own_ix2
  repeat' split
  all_goals decide
theorem own_lh3 (x0 x1 x2 : Int32) : 0 ≤ (own_lo3 x0 x1 x2).toInt ∧ (own_lo3 x0 x1 x2).toInt ≤ (own_hi3 x0 x1 x2).toInt ∧ (own_hi3 x0 x1 x2).toInt ≤ 3 := by
  by_cases p0 : (32 : Int32) < (x0 &&& (255 : Int32))
  · by_cases p1 : (32 : Int32) < (x1 &&& (255 : Int32))
    · by_cases p2 : (32 : Int32) < (x2 &&& (255 : Int32))
      · simp only [own_lo3, own_hi3, if_pos p0, if_pos p1, if_pos p2] <;> decide
      · simp only [own_lo3, own_hi3, if_pos p0, if_pos p1, if_neg p2] <;> decide
    · by_cases p2 : (32 : Int32) < (x2 &&& (255 : Int32))
      · simp only [own_lo3, own_hi3, if_pos p0, if_neg p1, if_pos p2] <;> decide
      · simp only [own_lo3, own_hi3, if_pos p0, if_neg p1, if_neg p2] <;> decide
  · by_cases p1 : (32 : Int32) < (x1 &&& (255 : Int32))
    · by_cases p2 : (32 : Int32) < (x2 &&& (255 : Int32))
      · simp only [own_lo3, own_hi3, if_neg p0, if_pos p1, if_pos p2] <;> decide
      · simp only [own_lo3, own_hi3, if_neg p0, if_pos p1, if_neg p2] <;> decide
    · by_cases p2 : (32 : Int32) < (x2 &&& (255 : Int32))
      · simp only [own_lo3, own_hi3, if_neg p0, if_neg p1, if_pos p2] <;> decide
      · simp only [own_lo3, own_hi3, if_neg p0, if_neg p1, if_neg p2] <;> decide
theorem own_ib3 (k : Int32) (x0 x1 x2 : Int32) : -1 ≤ (own_ix3 k x0 x1 x2).toInt ∧ (own_ix3 k x0 x1 x2).toInt < 3 := by
  unfold own_ix3
  repeat' split
  all_goals decide
theorem own_lh4 (x0 x1 x2 x3 : Int32) : 0 ≤ (own_lo4 x0 x1 x2 x3).toInt ∧ (own_lo4 x0 x1 x2 x3).toInt ≤ (own_hi4 x0 x1 x2 x3).toInt ∧ (own_hi4 x0 x1 x2 x3).toInt ≤ 4 := by
  by_cases p0 : (32 : Int32) < (x0 &&& (255 : Int32))
  · by_cases p1 : (32 : Int32) < (x1 &&& (255 : Int32))
    · by_cases p2 : (32 : Int32) < (x2 &&& (255 : Int32))
      · by_cases p3 : (32 : Int32) < (x3 &&& (255 : Int32))
        · simp only [own_lo4, own_hi4, if_pos p0, if_pos p1, if_pos p2, if_pos p3] <;> decide
        · simp only [own_lo4, own_hi4, if_pos p0, if_pos p1, if_pos p2, if_neg p3] <;> decide
      · by_cases p3 : (32 : Int32) < (x3 &&& (255 : Int32))
        · simp only [own_lo4, own_hi4, if_pos p0, if_pos p1, if_neg p2, if_pos p3] <;> decide
        · simp only [own_lo4, own_hi4, if_pos p0, if_pos p1, if_neg p2, if_neg p3] <;> decide
    · by_cases p2 : (32 : Int32) < (x2 &&& (255 : Int32))
      · by_cases p3 : (32 : Int32) < (x3 &&& (255 : Int32))
        · simp only [own_lo4, own_hi4, if_pos p0, if_neg p1, if_pos p2, if_pos p3] <;> decide
        · simp only [own_lo4, own_hi4, if_pos p0, if_neg p1, if_pos p2, if_neg p3] <;> decide
      · by_cases p3 : (32 : Int32) < (x3 &&& (255 : Int32))
        · simp only [own_lo4, own_hi4, if_pos p0, if_neg p1, if_neg p2, if_pos p3] <;> decide
        · simp only [own_lo4, own_hi4, if_pos p0, if_neg p1, if_neg p2, if_neg p3] <;> decide
  · by_cases p1 : (32 : Int32) < (x1 &&& (255 : Int32))
    · by_cases p2 : (32 : Int32) < (x2 &&& (255 : Int32))
      · by_cases p3 : (32 : Int32) < (x3 &&& (255 : Int32))
        · simp only [own_lo4, own_hi4, if_neg p0, if_pos p1, if_pos p2, if_pos p3] <;> decide
        · simp only [own_lo4, own_hi4, if_neg p0, if_pos p1, if_pos p2, if_neg p3] <;> decide
      · by_cases p3 : (32 : Int32) < (x3 &&& (255 : Int32))
        · simp only [own_lo4, own_hi4, if_neg p0, if_pos p1, if_neg p2, if_pos p3] <;> decide
        · simp only [own_lo4, own_hi4, if_neg p0, if_pos p1, if_neg p2, if_neg p3] <;> decide
    · by_cases p2 : (32 : Int32) < (x2 &&& (255 : Int32))
      · by_cases p3 : (32 : Int32) < (x3 &&& (255 : Int32))
        · simp only [own_lo4, own_hi4, if_neg p0, if_neg p1, if_pos p2, if_pos p3] <;> decide
        · simp only [own_lo4, own_hi4, if_neg p0, if_neg p1, if_pos p2, if_neg p3] <;> decide
      · by_cases p3 : (32 : Int32) < (x3 &&& (255 : Int32))
        · simp only [own_lo4, own_hi4, if_neg p0, if_neg p1, if_neg p2, if_pos p3] <;> decide
        · simp only [own_lo4, own_hi4, if_neg p0, if_neg p1, if_neg p2, if_neg p3] <;> decide
theorem own_ib4 (k : Int32) (x0 x1 x2 x3 : Int32) : -1 ≤ (own_ix4 k x0 x1 x2 x3).toInt ∧ (own_ix4 k x0 x1 x2 x3).toInt < 4 := by
  unfold own_ix4
  repeat' split
  all_goals decide
theorem own_lhb {z : Int32} {xs : List Int32} (h : z.toNatClampNeg = xs.length) (h4 : z.toInt ≤ 4) (h0 : ¬ z < 0) : 0 ≤ (own_lo xs).toInt ∧ (own_lo xs).toInt ≤ (own_hi xs).toInt ∧ (own_hi xs).toInt ≤ z.toInt := by
  rcases own_l5 h h4 h0 with ⟨rfl, rfl⟩ | ⟨x0, rfl, rfl⟩ | ⟨x0, x1, rfl, rfl⟩ | ⟨x0, x1, x2, rfl, rfl⟩ | ⟨x0, x1, x2, x3, rfl, rfl⟩
  · exact own_lh0
  · exact own_lh1 x0
  · exact own_lh2 x0 x1
  · exact own_lh3 x0 x1 x2
  · exact own_lh4 x0 x1 x2 x3
theorem own_ixb (k : Int32) {z : Int32} {xs : List Int32} (h : z.toNatClampNeg = xs.length) (h4 : z.toInt ≤ 4) (h0 : ¬ z < 0) : -1 ≤ (own_ixx k xs).toInt ∧ (own_ixx k xs).toInt < z.toInt := by
  rcases own_l5 h h4 h0 with ⟨rfl, rfl⟩ | ⟨x0, rfl, rfl⟩ | ⟨x0, x1, rfl, rfl⟩ | ⟨x0, x1, x2, rfl, rfl⟩ | ⟨x0, x1, x2, x3, rfl, rfl⟩
  · exact own_ib0 k
  · exact own_ib1 k x0
  · exact own_ib2 k x0 x1
  · exact own_ib3 k x0 x1 x2
  · exact own_ib4 k x0 x1 x2 x3
theorem own_ixn (k : Int32) {z : Int32} {xs : List Int32} (h : z.toNatClampNeg = xs.length) (hz : ¬ (0 : Int32) < z) : own_ixx k xs = (-1 : Int32) := by
  have q := own_nlt' hz
  rw [own_i0] at q
  have e : z.toNatClampNeg = 0 := by
    have e1 : z.toNatClampNeg = z.toInt.toNat := rfl
    omega
  rw [e] at h
  rw [List.eq_nil_of_length_eq_zero h.symm]
  rfl
theorem own_hatq {ys cs : List Int32} {lo lo' m mm i e : Int32} (hmm : mm = m) (hl : lo' = lo) (h0 : 0 ≤ lo.toInt) (h1 : 0 ≤ m.toInt) (h2 : lo.toInt + m.toInt ≤ e.toInt) (h3 : e.toInt ≤ 4) (hp : ∀ j : Nat, (j : Int) < e.toInt → own_c (ys.getD j 0) = cs.getD j 0) (hi0 : 0 ≤ i.toInt) :
    i < m → ¬ i < 0 ∧ i < mm ∧ ¬ lo + i < 0 ∧ lo + i < (4 : Int32) ∧ own_c ((own_sub ys lo' mm).getD i.toNatClampNeg 0) = cs.getD (lo + i).toNatClampNeg 0 := by
  intro hlt
  subst hmm
  subst hl
  have l := own_lt0 hlt
  have e4 : (4 : Int32).toInt = 4 := by decide
  have a := c_iadd lo' i
  have r := rng32 (lo' + i)
  have t : (lo' + i).toInt = lo'.toInt + i.toInt := by omega
  clear a r
  have n1 := own_nat (j := i) hi0
  have n2 := own_nat (j := mm) h1
  have n3 := own_nat (j := lo') h0
  have n4 := own_nat (j := lo' + i) (by omega)
  refine ⟨own_nlt (by rw [own_i0]; omega), hlt, own_nlt (by rw [own_i0]; omega), own_lt (by omega), ?_⟩
  rw [own_subg _ _ _ _ (by omega), hp (lo'.toNatClampNeg + i.toNatClampNeg) (by omega), show lo'.toNatClampNeg + i.toNatClampNeg = (lo' + i).toNatClampNeg from by omega]
theorem own_n5 {x z : Int32} (h : z = ((x &&& (2147483647 : Int32)) % (5 : Int32))) : z = 0 ∨ z = 1 ∨ z = 2 ∨ z = 3 ∨ z = 4 := by
  have a := c_mask x 2147483647 31 (by decide) (by decide)
  have b := (c_irem (x &&& 2147483647) 5 5 (by decide)).1 (by rw [a]; omega)
  rw [← h] at b
  have q : z.toInt = 0 ∨ z.toInt = 1 ∨ z.toInt = 2 ∨ z.toInt = 3 ∨ z.toInt = 4 := by omega
  rcases q with q | q | q | q | q
  · exact Or.inl (Int32.toInt_inj.mp q)
  · exact Or.inr (Or.inl (Int32.toInt_inj.mp q))
  · exact Or.inr (Or.inr (Or.inl (Int32.toInt_inj.mp q)))
  · exact Or.inr (Or.inr (Or.inr (Or.inl (Int32.toInt_inj.mp q))))
  · exact Or.inr (Or.inr (Or.inr (Or.inr (Int32.toInt_inj.mp q))))
theorem own_mid0 {c0 c1 c2 c3 : Int32} : own_hi [] - own_lo [] = (if (-1 : Int32) < (0 : Int32) then (0 : Int32) else ((-1 : Int32) - (0 : Int32)) + (1 : Int32)) ∧ own_lo [] = (0 : Int32) ∧ 0 ≤ (0 : Int32).toInt ∧ 0 ≤ (if (-1 : Int32) < (0 : Int32) then (0 : Int32) else ((-1 : Int32) - (0 : Int32)) + (1 : Int32)).toInt ∧ (0 : Int32).toInt + (if (-1 : Int32) < (0 : Int32) then (0 : Int32) else ((-1 : Int32) - (0 : Int32)) + (1 : Int32)).toInt ≤ ((0 : Int32) : Int32).toInt := by
  show own_hi0 - own_lo0 = (if (-1 : Int32) < (0 : Int32) then (0 : Int32) else ((-1 : Int32) - (0 : Int32)) + (1 : Int32)) ∧ own_lo0 = (0 : Int32) ∧ 0 ≤ (0 : Int32).toInt ∧ 0 ≤ (if (-1 : Int32) < (0 : Int32) then (0 : Int32) else ((-1 : Int32) - (0 : Int32)) + (1 : Int32)).toInt ∧ (0 : Int32).toInt + (if (-1 : Int32) < (0 : Int32) then (0 : Int32) else ((-1 : Int32) - (0 : Int32)) + (1 : Int32)).toInt ≤ ((0 : Int32) : Int32).toInt
  decide
theorem own_mid1 {c0 c1 c2 c3 : Int32} (hk0 : own_ok c0) : own_hi [own_b c0] - own_lo [own_b c0] = (if (own_lq (0 : Int32) (1 : Int32) c0 (-1 : Int32)) < (own_lq (0 : Int32) (1 : Int32) c0 (1 : Int32)) then (0 : Int32) else ((own_lq (0 : Int32) (1 : Int32) c0 (-1 : Int32)) - (own_lq (0 : Int32) (1 : Int32) c0 (1 : Int32))) + (1 : Int32)) ∧ own_lo [own_b c0] = (own_lq (0 : Int32) (1 : Int32) c0 (1 : Int32)) ∧ 0 ≤ (own_lq (0 : Int32) (1 : Int32) c0 (1 : Int32)).toInt ∧ 0 ≤ (if (own_lq (0 : Int32) (1 : Int32) c0 (-1 : Int32)) < (own_lq (0 : Int32) (1 : Int32) c0 (1 : Int32)) then (0 : Int32) else ((own_lq (0 : Int32) (1 : Int32) c0 (-1 : Int32)) - (own_lq (0 : Int32) (1 : Int32) c0 (1 : Int32))) + (1 : Int32)).toInt ∧ (own_lq (0 : Int32) (1 : Int32) c0 (1 : Int32)).toInt + (if (own_lq (0 : Int32) (1 : Int32) c0 (-1 : Int32)) < (own_lq (0 : Int32) (1 : Int32) c0 (1 : Int32)) then (0 : Int32) else ((own_lq (0 : Int32) (1 : Int32) c0 (-1 : Int32)) - (own_lq (0 : Int32) (1 : Int32) c0 (1 : Int32))) + (1 : Int32)).toInt ≤ ((1 : Int32) : Int32).toInt := by
  show own_hi1 (own_b c0) - own_lo1 (own_b c0) = (if (own_lq (0 : Int32) (1 : Int32) c0 (-1 : Int32)) < (own_lq (0 : Int32) (1 : Int32) c0 (1 : Int32)) then (0 : Int32) else ((own_lq (0 : Int32) (1 : Int32) c0 (-1 : Int32)) - (own_lq (0 : Int32) (1 : Int32) c0 (1 : Int32))) + (1 : Int32)) ∧ own_lo1 (own_b c0) = (own_lq (0 : Int32) (1 : Int32) c0 (1 : Int32)) ∧ 0 ≤ (own_lq (0 : Int32) (1 : Int32) c0 (1 : Int32)).toInt ∧ 0 ≤ (if (own_lq (0 : Int32) (1 : Int32) c0 (-1 : Int32)) < (own_lq (0 : Int32) (1 : Int32) c0 (1 : Int32)) then (0 : Int32) else ((own_lq (0 : Int32) (1 : Int32) c0 (-1 : Int32)) - (own_lq (0 : Int32) (1 : Int32) c0 (1 : Int32))) + (1 : Int32)).toInt ∧ (own_lq (0 : Int32) (1 : Int32) c0 (1 : Int32)).toInt + (if (own_lq (0 : Int32) (1 : Int32) c0 (-1 : Int32)) < (own_lq (0 : Int32) (1 : Int32) c0 (1 : Int32)) then (0 : Int32) else ((own_lq (0 : Int32) (1 : Int32) c0 (-1 : Int32)) - (own_lq (0 : Int32) (1 : Int32) c0 (1 : Int32))) + (1 : Int32)).toInt ≤ ((1 : Int32) : Int32).toInt
  by_cases p0 : (32 : Int32) < c0
  · simp only [own_lo1, own_hi1, own_lq, own_bm hk0, if_pos p0] <;> decide
  · simp only [own_lo1, own_hi1, own_lq, own_bm hk0, if_neg p0] <;> decide
theorem own_mid2 {c0 c1 c2 c3 : Int32} (hk0 : own_ok c0) (hk1 : own_ok c1) : own_hi [own_b c0, own_b c1] - own_lo [own_b c0, own_b c1] = (if (own_lq (1 : Int32) (2 : Int32) c1 (own_lq (0 : Int32) (2 : Int32) c0 (-1 : Int32))) < (own_lq (0 : Int32) (2 : Int32) c0 (own_lq (1 : Int32) (2 : Int32) c1 (2 : Int32))) then (0 : Int32) else ((own_lq (1 : Int32) (2 : Int32) c1 (own_lq (0 : Int32) (2 : Int32) c0 (-1 : Int32))) - (own_lq (0 : Int32) (2 : Int32) c0 (own_lq (1 : Int32) (2 : Int32) c1 (2 : Int32)))) + (1 : Int32)) ∧ own_lo [own_b c0, own_b c1] = (own_lq (0 : Int32) (2 : Int32) c0 (own_lq (1 : Int32) (2 : Int32) c1 (2 : Int32))) ∧ 0 ≤ (own_lq (0 : Int32) (2 : Int32) c0 (own_lq (1 : Int32) (2 : Int32) c1 (2 : Int32))).toInt ∧ 0 ≤ (if (own_lq (1 : Int32) (2 : Int32) c1 (own_lq (0 : Int32) (2 : Int32) c0 (-1 : Int32))) < (own_lq (0 : Int32) (2 : Int32) c0 (own_lq (1 : Int32) (2 : Int32) c1 (2 : Int32))) then (0 : Int32) else ((own_lq (1 : Int32) (2 : Int32) c1 (own_lq (0 : Int32) (2 : Int32) c0 (-1 : Int32))) - (own_lq (0 : Int32) (2 : Int32) c0 (own_lq (1 : Int32) (2 : Int32) c1 (2 : Int32)))) + (1 : Int32)).toInt ∧ (own_lq (0 : Int32) (2 : Int32) c0 (own_lq (1 : Int32) (2 : Int32) c1 (2 : Int32))).toInt + (if (own_lq (1 : Int32) (2 : Int32) c1 (own_lq (0 : Int32) (2 : Int32) c0 (-1 : Int32))) < (own_lq (0 : Int32) (2 : Int32) c0 (own_lq (1 : Int32) (2 : Int32) c1 (2 : Int32))) then (0 : Int32) else ((own_lq (1 : Int32) (2 : Int32) c1 (own_lq (0 : Int32) (2 : Int32) c0 (-1 : Int32))) - (own_lq (0 : Int32) (2 : Int32) c0 (own_lq (1 : Int32) (2 : Int32) c1 (2 : Int32)))) + (1 : Int32)).toInt ≤ ((2 : Int32) : Int32).toInt := by
  show own_hi2 (own_b c0) (own_b c1) - own_lo2 (own_b c0) (own_b c1) = (if (own_lq (1 : Int32) (2 : Int32) c1 (own_lq (0 : Int32) (2 : Int32) c0 (-1 : Int32))) < (own_lq (0 : Int32) (2 : Int32) c0 (own_lq (1 : Int32) (2 : Int32) c1 (2 : Int32))) then (0 : Int32) else ((own_lq (1 : Int32) (2 : Int32) c1 (own_lq (0 : Int32) (2 : Int32) c0 (-1 : Int32))) - (own_lq (0 : Int32) (2 : Int32) c0 (own_lq (1 : Int32) (2 : Int32) c1 (2 : Int32)))) + (1 : Int32)) ∧ own_lo2 (own_b c0) (own_b c1) = (own_lq (0 : Int32) (2 : Int32) c0 (own_lq (1 : Int32) (2 : Int32) c1 (2 : Int32))) ∧ 0 ≤ (own_lq (0 : Int32) (2 : Int32) c0 (own_lq (1 : Int32) (2 : Int32) c1 (2 : Int32))).toInt ∧ 0 ≤ (if (own_lq (1 : Int32) (2 : Int32) c1 (own_lq (0 : Int32) (2 : Int32) c0 (-1 : Int32))) < (own_lq (0 : Int32) (2 : Int32) c0 (own_lq (1 : Int32) (2 : Int32) c1 (2 : Int32))) then (0 : Int32) else ((own_lq (1 : Int32) (2 : Int32) c1 (own_lq (0 : Int32) (2 : Int32) c0 (-1 : Int32))) - (own_lq (0 : Int32) (2 : Int32) c0 (own_lq (1 : Int32) (2 : Int32) c1 (2 : Int32)))) + (1 : Int32)).toInt ∧ (own_lq (0 : Int32) (2 : Int32) c0 (own_lq (1 : Int32) (2 : Int32) c1 (2 : Int32))).toInt + (if (own_lq (1 : Int32) (2 : Int32) c1 (own_lq (0 : Int32) (2 : Int32) c0 (-1 : Int32))) < (own_lq (0 : Int32) (2 : Int32) c0 (own_lq (1 : Int32) (2 : Int32) c1 (2 : Int32))) then (0 : Int32) else ((own_lq (1 : Int32) (2 : Int32) c1 (own_lq (0 : Int32) (2 : Int32) c0 (-1 : Int32))) - (own_lq (0 : Int32) (2 : Int32) c0 (own_lq (1 : Int32) (2 : Int32) c1 (2 : Int32)))) + (1 : Int32)).toInt ≤ ((2 : Int32) : Int32).toInt
  by_cases p0 : (32 : Int32) < c0
  · by_cases p1 : (32 : Int32) < c1
    · simp only [own_lo2, own_hi2, own_lq, own_bm hk0, own_bm hk1, if_pos p0, if_pos p1] <;> decide
    · simp only [own_lo2, own_hi2, own_lq, own_bm hk0, own_bm hk1, if_pos p0, if_neg p1] <;> decide
  · by_cases p1 : (32 : Int32) < c1
    · simp only [own_lo2, own_hi2, own_lq, own_bm hk0, own_bm hk1, if_neg p0, if_pos p1] <;> decide
    · simp only [own_lo2, own_hi2, own_lq, own_bm hk0, own_bm hk1, if_neg p0, if_neg p1] <;> decide
theorem own_mid3 {c0 c1 c2 c3 : Int32} (hk0 : own_ok c0) (hk1 : own_ok c1) (hk2 : own_ok c2) : own_hi [own_b c0, own_b c1, own_b c2] - own_lo [own_b c0, own_b c1, own_b c2] = (if (own_lq (2 : Int32) (3 : Int32) c2 (own_lq (1 : Int32) (3 : Int32) c1 (own_lq (0 : Int32) (3 : Int32) c0 (-1 : Int32)))) < (own_lq (0 : Int32) (3 : Int32) c0 (own_lq (1 : Int32) (3 : Int32) c1 (own_lq (2 : Int32) (3 : Int32) c2 (3 : Int32)))) then (0 : Int32) else ((own_lq (2 : Int32) (3 : Int32) c2 (own_lq (1 : Int32) (3 : Int32) c1 (own_lq (0 : Int32) (3 : Int32) c0 (-1 : Int32)))) - (own_lq (0 : Int32) (3 : Int32) c0 (own_lq (1 : Int32) (3 : Int32) c1 (own_lq (2 : Int32) (3 : Int32) c2 (3 : Int32))))) + (1 : Int32)) ∧ own_lo [own_b c0, own_b c1, own_b c2] = (own_lq (0 : Int32) (3 : Int32) c0 (own_lq (1 : Int32) (3 : Int32) c1 (own_lq (2 : Int32) (3 : Int32) c2 (3 : Int32)))) ∧ 0 ≤ (own_lq (0 : Int32) (3 : Int32) c0 (own_lq (1 : Int32) (3 : Int32) c1 (own_lq (2 : Int32) (3 : Int32) c2 (3 : Int32)))).toInt ∧ 0 ≤ (if (own_lq (2 : Int32) (3 : Int32) c2 (own_lq (1 : Int32) (3 : Int32) c1 (own_lq (0 : Int32) (3 : Int32) c0 (-1 : Int32)))) < (own_lq (0 : Int32) (3 : Int32) c0 (own_lq (1 : Int32) (3 : Int32) c1 (own_lq (2 : Int32) (3 : Int32) c2 (3 : Int32)))) then (0 : Int32) else ((own_lq (2 : Int32) (3 : Int32) c2 (own_lq (1 : Int32) (3 : Int32) c1 (own_lq (0 : Int32) (3 : Int32) c0 (-1 : Int32)))) - (own_lq (0 : Int32) (3 : Int32) c0 (own_lq (1 : Int32) (3 : Int32) c1 (own_lq (2 : Int32) (3 : Int32) c2 (3 : Int32))))) + (1 : Int32)).toInt ∧ (own_lq (0 : Int32) (3 : Int32) c0 (own_lq (1 : Int32) (3 : Int32) c1 (own_lq (2 : Int32) (3 : Int32) c2 (3 : Int32)))).toInt + (if (own_lq (2 : Int32) (3 : Int32) c2 (own_lq (1 : Int32) (3 : Int32) c1 (own_lq (0 : Int32) (3 : Int32) c0 (-1 : Int32)))) < (own_lq (0 : Int32) (3 : Int32) c0 (own_lq (1 : Int32) (3 : Int32) c1 (own_lq (2 : Int32) (3 : Int32) c2 (3 : Int32)))) then (0 : Int32) else ((own_lq (2 : Int32) (3 : Int32) c2 (own_lq (1 : Int32) (3 : Int32) c1 (own_lq (0 : Int32) (3 : Int32) c0 (-1 : Int32)))) - (own_lq (0 : Int32) (3 : Int32) c0 (own_lq (1 : Int32) (3 : Int32) c1 (own_lq (2 : Int32) (3 : Int32) c2 (3 : Int32))))) + (1 : Int32)).toInt ≤ ((3 : Int32) : Int32).toInt := by
  show own_hi3 (own_b c0) (own_b c1) (own_b c2) - own_lo3 (own_b c0) (own_b c1) (own_b c2) = (if (own_lq (2 : Int32) (3 : Int32) c2 (own_lq (1 : Int32) (3 : Int32) c1 (own_lq (0 : Int32) (3 : Int32) c0 (-1 : Int32)))) < (own_lq (0 : Int32) (3 : Int32) c0 (own_lq (1 : Int32) (3 : Int32) c1 (own_lq (2 : Int32) (3 : Int32) c2 (3 : Int32)))) then (0 : Int32) else ((own_lq (2 : Int32) (3 : Int32) c2 (own_lq (1 : Int32) (3 : Int32) c1 (own_lq (0 : Int32) (3 : Int32) c0 (-1 : Int32)))) - (own_lq (0 : Int32) (3 : Int32) c0 (own_lq (1 : Int32) (3 : Int32) c1 (own_lq (2 : Int32) (3 : Int32) c2 (3 : Int32))))) + (1 : Int32)) ∧ own_lo3 (own_b c0) (own_b c1) (own_b c2) = (own_lq (0 : Int32) (3 : Int32) c0 (own_lq (1 : Int32) (3 : Int32) c1 (own_lq (2 : Int32) (3 : Int32) c2 (3 : Int32)))) ∧ 0 ≤ (own_lq (0 : Int32) (3 : Int32) c0 (own_lq (1 : Int32) (3 : Int32) c1 (own_lq (2 : Int32) (3 : Int32) c2 (3 : Int32)))).toInt ∧ 0 ≤ (if (own_lq (2 : Int32) (3 : Int32) c2 (own_lq (1 : Int32) (3 : Int32) c1 (own_lq (0 : Int32) (3 : Int32) c0 (-1 : Int32)))) < (own_lq (0 : Int32) (3 : Int32) c0 (own_lq (1 : Int32) (3 : Int32) c1 (own_lq (2 : Int32) (3 : Int32) c2 (3 : Int32)))) then (0 : Int32) else ((own_lq (2 : Int32) (3 : Int32) c2 (own_lq (1 : Int32) (3 : Int32) c1 (own_lq (0 : Int32) (3 : Int32) c0 (-1 : Int32)))) - (own_lq (0 : Int32) (3 : Int32) c0 (own_lq (1 : Int32) (3 : Int32) c1 (own_lq (2 : Int32) (3 : Int32) c2 (3 : Int32))))) + (1 : Int32)).toInt ∧ (own_lq (0 : Int32) (3 : Int32) c0 (own_lq (1 : Int32) (3 : Int32) c1 (own_lq (2 : Int32) (3 : Int32) c2 (3 : Int32)))).toInt + (if (own_lq (2 : Int32) (3 : Int32) c2 (own_lq (1 : Int32) (3 : Int32) c1 (own_lq (0 : Int32) (3 : Int32) c0 (-1 : Int32)))) < (own_lq (0 : Int32) (3 : Int32) c0 (own_lq (1 : Int32) (3 : Int32) c1 (own_lq (2 : Int32) (3 : Int32) c2 (3 : Int32)))) then (0 : Int32) else ((own_lq (2 : Int32) (3 : Int32) c2 (own_lq (1 : Int32) (3 : Int32) c1 (own_lq (0 : Int32) (3 : Int32) c0 (-1 : Int32)))) - (own_lq (0 : Int32) (3 : Int32) c0 (own_lq (1 : Int32) (3 : Int32) c1 (own_lq (2 : Int32) (3 : Int32) c2 (3 : Int32))))) + (1 : Int32)).toInt ≤ ((3 : Int32) : Int32).toInt
  by_cases p0 : (32 : Int32) < c0
  · by_cases p1 : (32 : Int32) < c1
    · by_cases p2 : (32 : Int32) < c2
      · simp only [own_lo3, own_hi3, own_lq, own_bm hk0, own_bm hk1, own_bm hk2, if_pos p0, if_pos p1, if_pos p2] <;> decide
      · simp only [own_lo3, own_hi3, own_lq, own_bm hk0, own_bm hk1, own_bm hk2, if_pos p0, if_pos p1, if_neg p2] <;> decide
    · by_cases p2 : (32 : Int32) < c2
      · simp only [own_lo3, own_hi3, own_lq, own_bm hk0, own_bm hk1, own_bm hk2, if_pos p0, if_neg p1, if_pos p2] <;> decide
      · simp only [own_lo3, own_hi3, own_lq, own_bm hk0, own_bm hk1, own_bm hk2, if_pos p0, if_neg p1, if_neg p2] <;> decide
  · by_cases p1 : (32 : Int32) < c1
    · by_cases p2 : (32 : Int32) < c2
      · simp only [own_lo3, own_hi3, own_lq, own_bm hk0, own_bm hk1, own_bm hk2, if_neg p0, if_pos p1, if_pos p2] <;> decide
      · simp only [own_lo3, own_hi3, own_lq, own_bm hk0, own_bm hk1, own_bm hk2, if_neg p0, if_pos p1, if_neg p2] <;> decide
    · by_cases p2 : (32 : Int32) < c2
      · simp only [own_lo3, own_hi3, own_lq, own_bm hk0, own_bm hk1, own_bm hk2, if_neg p0, if_neg p1, if_pos p2] <;> decide
      · simp only [own_lo3, own_hi3, own_lq, own_bm hk0, own_bm hk1, own_bm hk2, if_neg p0, if_neg p1, if_neg p2] <;> decide
theorem own_mid4 {c0 c1 c2 c3 : Int32} (hk0 : own_ok c0) (hk1 : own_ok c1) (hk2 : own_ok c2) (hk3 : own_ok c3) : own_hi [own_b c0, own_b c1, own_b c2, own_b c3] - own_lo [own_b c0, own_b c1, own_b c2, own_b c3] = (if (own_lq (3 : Int32) (4 : Int32) c3 (own_lq (2 : Int32) (4 : Int32) c2 (own_lq (1 : Int32) (4 : Int32) c1 (own_lq (0 : Int32) (4 : Int32) c0 (-1 : Int32))))) < (own_lq (0 : Int32) (4 : Int32) c0 (own_lq (1 : Int32) (4 : Int32) c1 (own_lq (2 : Int32) (4 : Int32) c2 (own_lq (3 : Int32) (4 : Int32) c3 (4 : Int32))))) then (0 : Int32) else ((own_lq (3 : Int32) (4 : Int32) c3 (own_lq (2 : Int32) (4 : Int32) c2 (own_lq (1 : Int32) (4 : Int32) c1 (own_lq (0 : Int32) (4 : Int32) c0 (-1 : Int32))))) - (own_lq (0 : Int32) (4 : Int32) c0 (own_lq (1 : Int32) (4 : Int32) c1 (own_lq (2 : Int32) (4 : Int32) c2 (own_lq (3 : Int32) (4 : Int32) c3 (4 : Int32)))))) + (1 : Int32)) ∧ own_lo [own_b c0, own_b c1, own_b c2, own_b c3] = (own_lq (0 : Int32) (4 : Int32) c0 (own_lq (1 : Int32) (4 : Int32) c1 (own_lq (2 : Int32) (4 : Int32) c2 (own_lq (3 : Int32) (4 : Int32) c3 (4 : Int32))))) ∧ 0 ≤ (own_lq (0 : Int32) (4 : Int32) c0 (own_lq (1 : Int32) (4 : Int32) c1 (own_lq (2 : Int32) (4 : Int32) c2 (own_lq (3 : Int32) (4 : Int32) c3 (4 : Int32))))).toInt ∧ 0 ≤ (if (own_lq (3 : Int32) (4 : Int32) c3 (own_lq (2 : Int32) (4 : Int32) c2 (own_lq (1 : Int32) (4 : Int32) c1 (own_lq (0 : Int32) (4 : Int32) c0 (-1 : Int32))))) < (own_lq (0 : Int32) (4 : Int32) c0 (own_lq (1 : Int32) (4 : Int32) c1 (own_lq (2 : Int32) (4 : Int32) c2 (own_lq (3 : Int32) (4 : Int32) c3 (4 : Int32))))) then (0 : Int32) else ((own_lq (3 : Int32) (4 : Int32) c3 (own_lq (2 : Int32) (4 : Int32) c2 (own_lq (1 : Int32) (4 : Int32) c1 (own_lq (0 : Int32) (4 : Int32) c0 (-1 : Int32))))) - (own_lq (0 : Int32) (4 : Int32) c0 (own_lq (1 : Int32) (4 : Int32) c1 (own_lq (2 : Int32) (4 : Int32) c2 (own_lq (3 : Int32) (4 : Int32) c3 (4 : Int32)))))) + (1 : Int32)).toInt ∧ (own_lq (0 : Int32) (4 : Int32) c0 (own_lq (1 : Int32) (4 : Int32) c1 (own_lq (2 : Int32) (4 : Int32) c2 (own_lq (3 : Int32) (4 : Int32) c3 (4 : Int32))))).toInt + (if (own_lq (3 : Int32) (4 : Int32) c3 (own_lq (2 : Int32) (4 : Int32) c2 (own_lq (1 : Int32) (4 : Int32) c1 (own_lq (0 : Int32) (4 : Int32) c0 (-1 : Int32))))) < (own_lq (0 : Int32) (4 : Int32) c0 (own_lq (1 : Int32) (4 : Int32) c1 (own_lq (2 : Int32) (4 : Int32) c2 (own_lq (3 : Int32) (4 : Int32) c3 (4 : Int32))))) then (0 : Int32) else ((own_lq (3 : Int32) (4 : Int32) c3 (own_lq (2 : Int32) (4 : Int32) c2 (own_lq (1 : Int32) (4 : Int32) c1 (own_lq (0 : Int32) (4 : Int32) c0 (-1 : Int32))))) - (own_lq (0 : Int32) (4 : Int32) c0 (own_lq (1 : Int32) (4 : Int32) c1 (own_lq (2 : Int32) (4 : Int32) c2 (own_lq (3 : Int32) (4 : Int32) c3 (4 : Int32)))))) + (1 : Int32)).toInt ≤ ((4 : Int32) : Int32).toInt := by
  show own_hi4 (own_b c0) (own_b c1) (own_b c2) (own_b c3) - own_lo4 (own_b c0) (own_b c1) (own_b c2) (own_b c3) = (if (own_lq (3 : Int32) (4 : Int32) c3 (own_lq (2 : Int32) (4 : Int32) c2 (own_lq (1 : Int32) (4 : Int32) c1 (own_lq (0 : Int32) (4 : Int32) c0 (-1 : Int32))))) < (own_lq (0 : Int32) (4 : Int32) c0 (own_lq (1 : Int32) (4 : Int32) c1 (own_lq (2 : Int32) (4 : Int32) c2 (own_lq (3 : Int32) (4 : Int32) c3 (4 : Int32))))) then (0 : Int32) else ((own_lq (3 : Int32) (4 : Int32) c3 (own_lq (2 : Int32) (4 : Int32) c2 (own_lq (1 : Int32) (4 : Int32) c1 (own_lq (0 : Int32) (4 : Int32) c0 (-1 : Int32))))) - (own_lq (0 : Int32) (4 : Int32) c0 (own_lq (1 : Int32) (4 : Int32) c1 (own_lq (2 : Int32) (4 : Int32) c2 (own_lq (3 : Int32) (4 : Int32) c3 (4 : Int32)))))) + (1 : Int32)) ∧ own_lo4 (own_b c0) (own_b c1) (own_b c2) (own_b c3) = (own_lq (0 : Int32) (4 : Int32) c0 (own_lq (1 : Int32) (4 : Int32) c1 (own_lq (2 : Int32) (4 : Int32) c2 (own_lq (3 : Int32) (4 : Int32) c3 (4 : Int32))))) ∧ 0 ≤ (own_lq (0 : Int32) (4 : Int32) c0 (own_lq (1 : Int32) (4 : Int32) c1 (own_lq (2 : Int32) (4 : Int32) c2 (own_lq (3 : Int32) (4 : Int32) c3 (4 : Int32))))).toInt ∧ 0 ≤ (if (own_lq (3 : Int32) (4 : Int32) c3 (own_lq (2 : Int32) (4 : Int32) c2 (own_lq (1 : Int32) (4 : Int32) c1 (own_lq (0 : Int32) (4 : Int32) c0 (-1 : Int32))))) < (own_lq (0 : Int32) (4 : Int32) c0 (own_lq (1 : Int32) (4 : Int32) c1 (own_lq (2 : Int32) (4 : Int32) c2 (own_lq (3 : Int32) (4 : Int32) c3 (4 : Int32))))) then (0 : Int32) else ((own_lq (3 : Int32) (4 : Int32) c3 (own_lq (2 : Int32) (4 : Int32) c2 (own_lq (1 : Int32) (4 : Int32) c1 (own_lq (0 : Int32) (4 : Int32) c0 (-1 : Int32))))) - (own_lq (0 : Int32) (4 : Int32) c0 (own_lq (1 : Int32) (4 : Int32) c1 (own_lq (2 : Int32) (4 : Int32) c2 (own_lq (3 : Int32) (4 : Int32) c3 (4 : Int32)))))) + (1 : Int32)).toInt ∧ (own_lq (0 : Int32) (4 : Int32) c0 (own_lq (1 : Int32) (4 : Int32) c1 (own_lq (2 : Int32) (4 : Int32) c2 (own_lq (3 : Int32) (4 : Int32) c3 (4 : Int32))))).toInt + (if (own_lq (3 : Int32) (4 : Int32) c3 (own_lq (2 : Int32) (4 : Int32) c2 (own_lq (1 : Int32) (4 : Int32) c1 (own_lq (0 : Int32) (4 : Int32) c0 (-1 : Int32))))) < (own_lq (0 : Int32) (4 : Int32) c0 (own_lq (1 : Int32) (4 : Int32) c1 (own_lq (2 : Int32) (4 : Int32) c2 (own_lq (3 : Int32) (4 : Int32) c3 (4 : Int32))))) then (0 : Int32) else ((own_lq (3 : Int32) (4 : Int32) c3 (own_lq (2 : Int32) (4 : Int32) c2 (own_lq (1 : Int32) (4 : Int32) c1 (own_lq (0 : Int32) (4 : Int32) c0 (-1 : Int32))))) - (own_lq (0 : Int32) (4 : Int32) c0 (own_lq (1 : Int32) (4 : Int32) c1 (own_lq (2 : Int32) (4 : Int32) c2 (own_lq (3 : Int32) (4 : Int32) c3 (4 : Int32)))))) + (1 : Int32)).toInt ≤ ((4 : Int32) : Int32).toInt
  by_cases p0 : (32 : Int32) < c0
  · by_cases p1 : (32 : Int32) < c1
    · by_cases p2 : (32 : Int32) < c2
      · by_cases p3 : (32 : Int32) < c3
        · simp only [own_lo4, own_hi4, own_lq, own_bm hk0, own_bm hk1, own_bm hk2, own_bm hk3, if_pos p0, if_pos p1, if_pos p2, if_pos p3] <;> decide
        · simp only [own_lo4, own_hi4, own_lq, own_bm hk0, own_bm hk1, own_bm hk2, own_bm hk3, if_pos p0, if_pos p1, if_pos p2, if_neg p3] <;> decide
      · by_cases p3 : (32 : Int32) < c3
        · simp only [own_lo4, own_hi4, own_lq, own_bm hk0, own_bm hk1, own_bm hk2, own_bm hk3, if_pos p0, if_pos p1, if_neg p2, if_pos p3] <;> decide
        · simp only [own_lo4, own_hi4, own_lq, own_bm hk0, own_bm hk1, own_bm hk2, own_bm hk3, if_pos p0, if_pos p1, if_neg p2, if_neg p3] <;> decide
    · by_cases p2 : (32 : Int32) < c2
      · by_cases p3 : (32 : Int32) < c3
        · simp only [own_lo4, own_hi4, own_lq, own_bm hk0, own_bm hk1, own_bm hk2, own_bm hk3, if_pos p0, if_neg p1, if_pos p2, if_pos p3] <;> decide
        · simp only [own_lo4, own_hi4, own_lq, own_bm hk0, own_bm hk1, own_bm hk2, own_bm hk3, if_pos p0, if_neg p1, if_pos p2, if_neg p3] <;> decide
      · by_cases p3 : (32 : Int32) < c3
        · simp only [own_lo4, own_hi4, own_lq, own_bm hk0, own_bm hk1, own_bm hk2, own_bm hk3, if_pos p0, if_neg p1, if_neg p2, if_pos p3] <;> decide
        · simp only [own_lo4, own_hi4, own_lq, own_bm hk0, own_bm hk1, own_bm hk2, own_bm hk3, if_pos p0, if_neg p1, if_neg p2, if_neg p3] <;> decide
  · by_cases p1 : (32 : Int32) < c1
    · by_cases p2 : (32 : Int32) < c2
      · by_cases p3 : (32 : Int32) < c3
        · simp only [own_lo4, own_hi4, own_lq, own_bm hk0, own_bm hk1, own_bm hk2, own_bm hk3, if_neg p0, if_pos p1, if_pos p2, if_pos p3] <;> decide
        · simp only [own_lo4, own_hi4, own_lq, own_bm hk0, own_bm hk1, own_bm hk2, own_bm hk3, if_neg p0, if_pos p1, if_pos p2, if_neg p3] <;> decide
      · by_cases p3 : (32 : Int32) < c3
        · simp only [own_lo4, own_hi4, own_lq, own_bm hk0, own_bm hk1, own_bm hk2, own_bm hk3, if_neg p0, if_pos p1, if_neg p2, if_pos p3] <;> decide
        · simp only [own_lo4, own_hi4, own_lq, own_bm hk0, own_bm hk1, own_bm hk2, own_bm hk3, if_neg p0, if_pos p1, if_neg p2, if_neg p3] <;> decide
    · by_cases p2 : (32 : Int32) < c2
      · by_cases p3 : (32 : Int32) < c3
        · simp only [own_lo4, own_hi4, own_lq, own_bm hk0, own_bm hk1, own_bm hk2, own_bm hk3, if_neg p0, if_neg p1, if_pos p2, if_pos p3] <;> decide
        · simp only [own_lo4, own_hi4, own_lq, own_bm hk0, own_bm hk1, own_bm hk2, own_bm hk3, if_neg p0, if_neg p1, if_pos p2, if_neg p3] <;> decide
      · by_cases p3 : (32 : Int32) < c3
        · simp only [own_lo4, own_hi4, own_lq, own_bm hk0, own_bm hk1, own_bm hk2, own_bm hk3, if_neg p0, if_neg p1, if_neg p2, if_pos p3] <;> decide
        · simp only [own_lo4, own_hi4, own_lq, own_bm hk0, own_bm hk1, own_bm hk2, own_bm hk3, if_neg p0, if_neg p1, if_neg p2, if_neg p3] <;> decide
theorem own_fin0 {c0 c1 c2 c3 : Int32} : own_hi (own_ys []) - own_lo (own_ys []) = (if (-1 : Int32) < (own_e0) then (0 : Int32) else ((-1 : Int32) - (own_e0)) + (1 : Int32)) ∧ own_lo (own_ys []) = (own_e0) ∧ 0 ≤ (own_e0).toInt ∧ 0 ≤ (if (-1 : Int32) < (own_e0) then (0 : Int32) else ((-1 : Int32) - (own_e0)) + (1 : Int32)).toInt ∧ (own_e0).toInt + (if (-1 : Int32) < (own_e0) then (0 : Int32) else ((-1 : Int32) - (own_e0)) + (1 : Int32)).toInt ≤ (own_e0 : Int32).toInt ∧ (own_e0).toInt ≤ 4 ∧ ∀ j : Nat, (j : Int) < (own_e0).toInt → own_c ((own_ys []).getD j 0) = ([c0, c1, c2, c3] : List Int32).getD j 0 := by
  have he : own_e0 = (0 : Int32) := rfl
  have hx : own_ixx (59 : Int32) [] = (-1 : Int32) := by
    show own_ix0 (59 : Int32) = _
    rfl
  have hy : own_ys [] = [] := by
    rw [own_ys, hx, if_pos (by decide)]
  rw [he, hy]
  obtain ⟨a1, a2, a3, a4, a5⟩ := own_mid0 (c0 := c0) (c1 := c1) (c2 := c2) (c3 := c3)
  refine ⟨a1, a2, a3, a4, a5, by decide, fun j hj => ?_⟩
  rw [show (0 : Int32).toInt = 0 from by decide] at hj
  omega
theorem own_fin1 {c0 c1 c2 c3 : Int32} (hk0 : own_ok c0) : own_hi (own_ys [own_b c0]) - own_lo (own_ys [own_b c0]) = (if (own_lq (0 : Int32) (own_e1 c0) c0 (-1 : Int32)) < (own_lq (0 : Int32) (own_e1 c0) c0 (own_e1 c0)) then (0 : Int32) else ((own_lq (0 : Int32) (own_e1 c0) c0 (-1 : Int32)) - (own_lq (0 : Int32) (own_e1 c0) c0 (own_e1 c0))) + (1 : Int32)) ∧ own_lo (own_ys [own_b c0]) = (own_lq (0 : Int32) (own_e1 c0) c0 (own_e1 c0)) ∧ 0 ≤ (own_lq (0 : Int32) (own_e1 c0) c0 (own_e1 c0)).toInt ∧ 0 ≤ (if (own_lq (0 : Int32) (own_e1 c0) c0 (-1 : Int32)) < (own_lq (0 : Int32) (own_e1 c0) c0 (own_e1 c0)) then (0 : Int32) else ((own_lq (0 : Int32) (own_e1 c0) c0 (-1 : Int32)) - (own_lq (0 : Int32) (own_e1 c0) c0 (own_e1 c0))) + (1 : Int32)).toInt ∧ (own_lq (0 : Int32) (own_e1 c0) c0 (own_e1 c0)).toInt + (if (own_lq (0 : Int32) (own_e1 c0) c0 (-1 : Int32)) < (own_lq (0 : Int32) (own_e1 c0) c0 (own_e1 c0)) then (0 : Int32) else ((own_lq (0 : Int32) (own_e1 c0) c0 (-1 : Int32)) - (own_lq (0 : Int32) (own_e1 c0) c0 (own_e1 c0))) + (1 : Int32)).toInt ≤ (own_e1 c0 : Int32).toInt ∧ (own_e1 c0).toInt ≤ 4 ∧ ∀ j : Nat, (j : Int) < (own_e1 c0).toInt → own_c ((own_ys [own_b c0]).getD j 0) = ([c0, c1, c2, c3] : List Int32).getD j 0 := by
  by_cases q0 : c0 = (59 : Int32)
  · have he : own_e1 c0 = (0 : Int32) := by rw [own_e1, if_pos q0]
    have hx : own_ixx (59 : Int32) [own_b c0] = (0 : Int32) := by
      show own_ix1 (59 : Int32) (own_b c0) = _
      rw [own_ix1, show (59 : Int32).toInt8.toInt32 = 59 from by decide, if_pos ((own_beq hk0 (by decide) (by decide)).mpr q0)]
    have hy : own_ys [own_b c0] = [] := by
      rw [own_ys, hx, if_neg (by decide), own_sub, show (0 : Int32).toNatClampNeg = 0 from by decide]
      rfl
    rw [he, hy]
    have k0 : ∀ p : Int32, own_lq (0 : Int32) (0 : Int32) c0 p = p := fun p => own_lqs (by decide)
    first | rw [k0, k0] | simp only [k0]
    obtain ⟨a1, a2, a3, a4, a5⟩ := own_mid0 (c0 := c0) (c1 := c1) (c2 := c2) (c3 := c3)
    refine ⟨a1, a2, a3, a4, a5, by decide, fun j hj => ?_⟩
    rw [show (0 : Int32).toInt = 0 from by decide] at hj
    omega
  · skip
    have he : own_e1 c0 = (1 : Int32) := by rw [own_e1, if_neg q0]
    have hx : own_ixx (59 : Int32) [own_b c0] = (-1 : Int32) := by
      show own_ix1 (59 : Int32) (own_b c0) = _
      rw [own_ix1, show (59 : Int32).toInt8.toInt32 = 59 from by decide, if_neg (fun q => q0 ((own_beq hk0 (by decide) (by decide)).mp q))]
    have hy : own_ys [own_b c0] = [own_b c0] := by
      rw [own_ys, hx, if_pos (by decide)]
    rw [he, hy]
    obtain ⟨a1, a2, a3, a4, a5⟩ := own_mid1 (c0 := c0) (c1 := c1) (c2 := c2) (c3 := c3) hk0
    refine ⟨a1, a2, a3, a4, a5, by decide, fun j hj => ?_⟩
    rw [show (1 : Int32).toInt = 1 from by decide] at hj
    rcases (by omega : j = 0) with rfl
    · exact own_bc hk0
theorem own_fin2 {c0 c1 c2 c3 : Int32} (hk0 : own_ok c0) (hk1 : own_ok c1) : own_hi (own_ys [own_b c0, own_b c1]) - own_lo (own_ys [own_b c0, own_b c1]) = (if (own_lq (1 : Int32) (own_e2 c0 c1) c1 (own_lq (0 : Int32) (own_e2 c0 c1) c0 (-1 : Int32))) < (own_lq (0 : Int32) (own_e2 c0 c1) c0 (own_lq (1 : Int32) (own_e2 c0 c1) c1 (own_e2 c0 c1))) then (0 : Int32) else ((own_lq (1 : Int32) (own_e2 c0 c1) c1 (own_lq (0 : Int32) (own_e2 c0 c1) c0 (-1 : Int32))) - (own_lq (0 : Int32) (own_e2 c0 c1) c0 (own_lq (1 : Int32) (own_e2 c0 c1) c1 (own_e2 c0 c1)))) + (1 : Int32)) ∧ own_lo (own_ys [own_b c0, own_b c1]) = (own_lq (0 : Int32) (own_e2 c0 c1) c0 (own_lq (1 : Int32) (own_e2 c0 c1) c1 (own_e2 c0 c1))) ∧ 0 ≤ (own_lq (0 : Int32) (own_e2 c0 c1) c0 (own_lq (1 : Int32) (own_e2 c0 c1) c1 (own_e2 c0 c1))).toInt ∧ 0 ≤ (if (own_lq (1 : Int32) (own_e2 c0 c1) c1 (own_lq (0 : Int32) (own_e2 c0 c1) c0 (-1 : Int32))) < (own_lq (0 : Int32) (own_e2 c0 c1) c0 (own_lq (1 : Int32) (own_e2 c0 c1) c1 (own_e2 c0 c1))) then (0 : Int32) else ((own_lq (1 : Int32) (own_e2 c0 c1) c1 (own_lq (0 : Int32) (own_e2 c0 c1) c0 (-1 : Int32))) - (own_lq (0 : Int32) (own_e2 c0 c1) c0 (own_lq (1 : Int32) (own_e2 c0 c1) c1 (own_e2 c0 c1)))) + (1 : Int32)).toInt ∧ (own_lq (0 : Int32) (own_e2 c0 c1) c0 (own_lq (1 : Int32) (own_e2 c0 c1) c1 (own_e2 c0 c1))).toInt + (if (own_lq (1 : Int32) (own_e2 c0 c1) c1 (own_lq (0 : Int32) (own_e2 c0 c1) c0 (-1 : Int32))) < (own_lq (0 : Int32) (own_e2 c0 c1) c0 (own_lq (1 : Int32) (own_e2 c0 c1) c1 (own_e2 c0 c1))) then (0 : Int32) else ((own_lq (1 : Int32) (own_e2 c0 c1) c1 (own_lq (0 : Int32) (own_e2 c0 c1) c0 (-1 : Int32))) - (own_lq (0 : Int32) (own_e2 c0 c1) c0 (own_lq (1 : Int32) (own_e2 c0 c1) c1 (own_e2 c0 c1)))) + (1 : Int32)).toInt ≤ (own_e2 c0 c1 : Int32).toInt ∧ (own_e2 c0 c1).toInt ≤ 4 ∧ ∀ j : Nat, (j : Int) < (own_e2 c0 c1).toInt → own_c ((own_ys [own_b c0, own_b c1]).getD j 0) = ([c0, c1, c2, c3] : List Int32).getD j 0 := by
  by_cases q0 : c0 = (59 : Int32)
  · have he : own_e2 c0 c1 = (0 : Int32) := by rw [own_e2, if_pos q0]
    have hx : own_ixx (59 : Int32) [own_b c0, own_b c1] = (0 : Int32) := by
      show own_ix2 (59 : Int32) (own_b c0) (own_b c1) = _
      rw [own_ix2, show (59 : Int32).toInt8.toInt32 = 59 from by decide, if_pos ((own_beq hk0 (by decide) (by decide)).mpr q0)]
    have hy : own_ys [own_b c0, own_b c1] = [] := by
      rw [own_ys, hx, if_neg (by decide), own_sub, show (0 : Int32).toNatClampNeg = 0 from by decide]
      rfl
    rw [he, hy]
    have k0 : ∀ p : Int32, own_lq (0 : Int32) (0 : Int32) c0 p = p := fun p => own_lqs (by decide)
    have k1 : ∀ p : Int32, own_lq (1 : Int32) (0 : Int32) c1 p = p := fun p => own_lqs (by decide)
    first | rw [k0, k0, k1, k1] | simp only [k0, k1]
    obtain ⟨a1, a2, a3, a4, a5⟩ := own_mid0 (c0 := c0) (c1 := c1) (c2 := c2) (c3 := c3)
    refine ⟨a1, a2, a3, a4, a5, by decide, fun j hj => ?_⟩
    rw [show (0 : Int32).toInt = 0 from by decide] at hj
    omega
  · skip
    by_cases q1 : c1 = (59 : Int32)
    · have he : own_e2 c0 c1 = (1 : Int32) := by rw [own_e2, if_neg q0, if_pos q1]
      have hx : own_ixx (59 : Int32) [own_b c0, own_b c1] = (1 : Int32) := by
        show own_ix2 (59 : Int32) (own_b c0) (own_b c1) = _
        rw [own_ix2, show (59 : Int32).toInt8.toInt32 = 59 from by decide, if_neg (fun q => q0 ((own_beq hk0 (by decide) (by decide)).mp q)), if_pos ((own_beq hk1 (by decide) (by decide)).mpr q1)]
      have hy : own_ys [own_b c0, own_b c1] = [own_b c0] := by
        rw [own_ys, hx, if_neg (by decide), own_sub, show (0 : Int32).toNatClampNeg = 0 from by decide, show (1 : Int32).toNatClampNeg = 1 from by decide]
        rfl
      rw [he, hy]
      have k1 : ∀ p : Int32, own_lq (1 : Int32) (1 : Int32) c1 p = p := fun p => own_lqs (by decide)
      first | rw [k1, k1] | simp only [k1]
      obtain ⟨a1, a2, a3, a4, a5⟩ := own_mid1 (c0 := c0) (c1 := c1) (c2 := c2) (c3 := c3) hk0
      refine ⟨a1, a2, a3, a4, a5, by decide, fun j hj => ?_⟩
      rw [show (1 : Int32).toInt = 1 from by decide] at hj
      rcases (by omega : j = 0) with rfl
      · exact own_bc hk0
    · skip
      have he : own_e2 c0 c1 = (2 : Int32) := by rw [own_e2, if_neg q0, if_neg q1]
      have hx : own_ixx (59 : Int32) [own_b c0, own_b c1] = (-1 : Int32) := by
        show own_ix2 (59 : Int32) (own_b c0) (own_b c1) = _
        rw [own_ix2, show (59 : Int32).toInt8.toInt32 = 59 from by decide, if_neg (fun q => q0 ((own_beq hk0 (by decide) (by decide)).mp q)), if_neg (fun q => q1 ((own_beq hk1 (by decide) (by decide)).mp q))]
      have hy : own_ys [own_b c0, own_b c1] = [own_b c0, own_b c1] := by
        rw [own_ys, hx, if_pos (by decide)]
      rw [he, hy]
      obtain ⟨a1, a2, a3, a4, a5⟩ := own_mid2 (c0 := c0) (c1 := c1) (c2 := c2) (c3 := c3) hk0 hk1
      refine ⟨a1, a2, a3, a4, a5, by decide, fun j hj => ?_⟩
      rw [show (2 : Int32).toInt = 2 from by decide] at hj
      rcases (by omega : j = 0 ∨ j = 1) with rfl | rfl
      · exact own_bc hk0
      · exact own_bc hk1
theorem own_fin3 {c0 c1 c2 c3 : Int32} (hk0 : own_ok c0) (hk1 : own_ok c1) (hk2 : own_ok c2) : own_hi (own_ys [own_b c0, own_b c1, own_b c2]) - own_lo (own_ys [own_b c0, own_b c1, own_b c2]) = (if (own_lq (2 : Int32) (own_e3 c0 c1 c2) c2 (own_lq (1 : Int32) (own_e3 c0 c1 c2) c1 (own_lq (0 : Int32) (own_e3 c0 c1 c2) c0 (-1 : Int32)))) < (own_lq (0 : Int32) (own_e3 c0 c1 c2) c0 (own_lq (1 : Int32) (own_e3 c0 c1 c2) c1 (own_lq (2 : Int32) (own_e3 c0 c1 c2) c2 (own_e3 c0 c1 c2)))) then (0 : Int32) else ((own_lq (2 : Int32) (own_e3 c0 c1 c2) c2 (own_lq (1 : Int32) (own_e3 c0 c1 c2) c1 (own_lq (0 : Int32) (own_e3 c0 c1 c2) c0 (-1 : Int32)))) - (own_lq (0 : Int32) (own_e3 c0 c1 c2) c0 (own_lq (1 : Int32) (own_e3 c0 c1 c2) c1 (own_lq (2 : Int32) (own_e3 c0 c1 c2) c2 (own_e3 c0 c1 c2))))) + (1 : Int32)) ∧ own_lo (own_ys [own_b c0, own_b c1, own_b c2]) = (own_lq (0 : Int32) (own_e3 c0 c1 c2) c0 (own_lq (1 : Int32) (own_e3 c0 c1 c2) c1 (own_lq (2 : Int32) (own_e3 c0 c1 c2) c2 (own_e3 c0 c1 c2)))) ∧ 0 ≤ (own_lq (0 : Int32) (own_e3 c0 c1 c2) c0 (own_lq (1 : Int32) (own_e3 c0 c1 c2) c1 (own_lq (2 : Int32) (own_e3 c0 c1 c2) c2 (own_e3 c0 c1 c2)))).toInt ∧ 0 ≤ (if (own_lq (2 : Int32) (own_e3 c0 c1 c2) c2 (own_lq (1 : Int32) (own_e3 c0 c1 c2) c1 (own_lq (0 : Int32) (own_e3 c0 c1 c2) c0 (-1 : Int32)))) < (own_lq (0 : Int32) (own_e3 c0 c1 c2) c0 (own_lq (1 : Int32) (own_e3 c0 c1 c2) c1 (own_lq (2 : Int32) (own_e3 c0 c1 c2) c2 (own_e3 c0 c1 c2)))) then (0 : Int32) else ((own_lq (2 : Int32) (own_e3 c0 c1 c2) c2 (own_lq (1 : Int32) (own_e3 c0 c1 c2) c1 (own_lq (0 : Int32) (own_e3 c0 c1 c2) c0 (-1 : Int32)))) - (own_lq (0 : Int32) (own_e3 c0 c1 c2) c0 (own_lq (1 : Int32) (own_e3 c0 c1 c2) c1 (own_lq (2 : Int32) (own_e3 c0 c1 c2) c2 (own_e3 c0 c1 c2))))) + (1 : Int32)).toInt ∧ (own_lq (0 : Int32) (own_e3 c0 c1 c2) c0 (own_lq (1 : Int32) (own_e3 c0 c1 c2) c1 (own_lq (2 : Int32) (own_e3 c0 c1 c2) c2 (own_e3 c0 c1 c2)))).toInt + (if (own_lq (2 : Int32) (own_e3 c0 c1 c2) c2 (own_lq (1 : Int32) (own_e3 c0 c1 c2) c1 (own_lq (0 : Int32) (own_e3 c0 c1 c2) c0 (-1 : Int32)))) < (own_lq (0 : Int32) (own_e3 c0 c1 c2) c0 (own_lq (1 : Int32) (own_e3 c0 c1 c2) c1 (own_lq (2 : Int32) (own_e3 c0 c1 c2) c2 (own_e3 c0 c1 c2)))) then (0 : Int32) else ((own_lq (2 : Int32) (own_e3 c0 c1 c2) c2 (own_lq (1 : Int32) (own_e3 c0 c1 c2) c1 (own_lq (0 : Int32) (own_e3 c0 c1 c2) c0 (-1 : Int32)))) - (own_lq (0 : Int32) (own_e3 c0 c1 c2) c0 (own_lq (1 : Int32) (own_e3 c0 c1 c2) c1 (own_lq (2 : Int32) (own_e3 c0 c1 c2) c2 (own_e3 c0 c1 c2))))) + (1 : Int32)).toInt ≤ (own_e3 c0 c1 c2 : Int32).toInt ∧ (own_e3 c0 c1 c2).toInt ≤ 4 ∧ ∀ j : Nat, (j : Int) < (own_e3 c0 c1 c2).toInt → own_c ((own_ys [own_b c0, own_b c1, own_b c2]).getD j 0) = ([c0, c1, c2, c3] : List Int32).getD j 0 := by
  by_cases q0 : c0 = (59 : Int32)
  · have he : own_e3 c0 c1 c2 = (0 : Int32) := by rw [own_e3, if_pos q0]
    have hx : own_ixx (59 : Int32) [own_b c0, own_b c1, own_b c2] = (0 : Int32) := by
      show own_ix3 (59 : Int32) (own_b c0) (own_b c1) (own_b c2) = _
      rw [own_ix3, show (59 : Int32).toInt8.toInt32 = 59 from by decide, if_pos ((own_beq hk0 (by decide) (by decide)).mpr q0)]
    have hy : own_ys [own_b c0, own_b c1, own_b c2] = [] := by
      rw [own_ys, hx, if_neg (by decide), own_sub, show (0 : Int32).toNatClampNeg = 0 from by decide]
      rfl
    rw [he, hy]
    have k0 : ∀ p : Int32, own_lq (0 : Int32) (0 : Int32) c0 p = p := fun p => own_lqs (by decide)
    have k1 : ∀ p : Int32, own_lq (1 : Int32) (0 : Int32) c1 p = p := fun p => own_lqs (by decide)
    have k2 : ∀ p : Int32, own_lq (2 : Int32) (0 : Int32) c2 p = p := fun p => own_lqs (by decide)
    first | rw [k0, k0, k1, k1, k2, k2] | simp only [k0, k1, k2]
    obtain ⟨a1, a2, a3, a4, a5⟩ := own_mid0 (c0 := c0) (c1 := c1) (c2 := c2) (c3 := c3)
    refine ⟨a1, a2, a3, a4, a5, by decide, fun j hj => ?_⟩
    rw [show (0 : Int32).toInt = 0 from by decide] at hj
    omega
  · skip
    by_cases q1 : c1 = (59 : Int32)
    · have he : own_e3 c0 c1 c2 = (1 : Int32) := by rw [own_e3, if_neg q0, if_pos q1]
      have hx : own_ixx (59 : Int32) [own_b c0, own_b c1, own_b c2] = (1 : Int32) := by
        show own_ix3 (59 : Int32) (own_b c0) (own_b c1) (own_b c2) = _
        rw [own_ix3, show (59 : Int32).toInt8.toInt32 = 59 from by decide, if_neg (fun q => q0 ((own_beq hk0 (by decide) (by decide)).mp q)), if_pos ((own_beq hk1 (by decide) (by decide)).mpr q1)]
      have hy : own_ys [own_b c0, own_b c1, own_b c2] = [own_b c0] := by
        rw [own_ys, hx, if_neg (by decide), own_sub, show (0 : Int32).toNatClampNeg = 0 from by decide, show (1 : Int32).toNatClampNeg = 1 from by decide]
        rfl
      rw [he, hy]
      have k1 : ∀ p : Int32, own_lq (1 : Int32) (1 : Int32) c1 p = p := fun p => own_lqs (by decide)
      have k2 : ∀ p : Int32, own_lq (2 : Int32) (1 : Int32) c2 p = p := fun p => own_lqs (by decide)
      first | rw [k1, k1, k2, k2] | simp only [k1, k2]
      obtain ⟨a1, a2, a3, a4, a5⟩ := own_mid1 (c0 := c0) (c1 := c1) (c2 := c2) (c3 := c3) hk0
      refine ⟨a1, a2, a3, a4, a5, by decide, fun j hj => ?_⟩
      rw [show (1 : Int32).toInt = 1 from by decide] at hj
      rcases (by omega : j = 0) with rfl
      · exact own_bc hk0
    · skip
      by_cases q2 : c2 = (59 : Int32)
      · have he : own_e3 c0 c1 c2 = (2 : Int32) := by rw [own_e3, if_neg q0, if_neg q1, if_pos q2]
        have hx : own_ixx (59 : Int32) [own_b c0, own_b c1, own_b c2] = (2 : Int32) := by
          show own_ix3 (59 : Int32) (own_b c0) (own_b c1) (own_b c2) = _
          rw [own_ix3, show (59 : Int32).toInt8.toInt32 = 59 from by decide, if_neg (fun q => q0 ((own_beq hk0 (by decide) (by decide)).mp q)), if_neg (fun q => q1 ((own_beq hk1 (by decide) (by decide)).mp q)), if_pos ((own_beq hk2 (by decide) (by decide)).mpr q2)]
        have hy : own_ys [own_b c0, own_b c1, own_b c2] = [own_b c0, own_b c1] := by
          rw [own_ys, hx, if_neg (by decide), own_sub, show (0 : Int32).toNatClampNeg = 0 from by decide, show (2 : Int32).toNatClampNeg = 2 from by decide]
          rfl
        rw [he, hy]
        have k2 : ∀ p : Int32, own_lq (2 : Int32) (2 : Int32) c2 p = p := fun p => own_lqs (by decide)
        first | rw [k2, k2] | simp only [k2]
        obtain ⟨a1, a2, a3, a4, a5⟩ := own_mid2 (c0 := c0) (c1 := c1) (c2 := c2) (c3 := c3) hk0 hk1
        refine ⟨a1, a2, a3, a4, a5, by decide, fun j hj => ?_⟩
        rw [show (2 : Int32).toInt = 2 from by decide] at hj
        rcases (by omega : j = 0 ∨ j = 1) with rfl | rfl
        · exact own_bc hk0
        · exact own_bc hk1
      · skip
        have he : own_e3 c0 c1 c2 = (3 : Int32) := by rw [own_e3, if_neg q0, if_neg q1, if_neg q2]
        have hx : own_ixx (59 : Int32) [own_b c0, own_b c1, own_b c2] = (-1 : Int32) := by
          show own_ix3 (59 : Int32) (own_b c0) (own_b c1) (own_b c2) = _
          rw [own_ix3, show (59 : Int32).toInt8.toInt32 = 59 from by decide, if_neg (fun q => q0 ((own_beq hk0 (by decide) (by decide)).mp q)), if_neg (fun q => q1 ((own_beq hk1 (by decide) (by decide)).mp q)), if_neg (fun q => q2 ((own_beq hk2 (by decide) (by decide)).mp q))]
        have hy : own_ys [own_b c0, own_b c1, own_b c2] = [own_b c0, own_b c1, own_b c2] := by
          rw [own_ys, hx, if_pos (by decide)]
        rw [he, hy]
        obtain ⟨a1, a2, a3, a4, a5⟩ := own_mid3 (c0 := c0) (c1 := c1) (c2 := c2) (c3 := c3) hk0 hk1 hk2
        refine ⟨a1, a2, a3, a4, a5, by decide, fun j hj => ?_⟩
        rw [show (3 : Int32).toInt = 3 from by decide] at hj
        rcases (by omega : j = 0 ∨ j = 1 ∨ j = 2) with rfl | rfl | rfl
        · exact own_bc hk0
        · exact own_bc hk1
        · exact own_bc hk2
theorem own_fin4 {c0 c1 c2 c3 : Int32} (hk0 : own_ok c0) (hk1 : own_ok c1) (hk2 : own_ok c2) (hk3 : own_ok c3) : own_hi (own_ys [own_b c0, own_b c1, own_b c2, own_b c3]) - own_lo (own_ys [own_b c0, own_b c1, own_b c2, own_b c3]) = (if (own_lq (3 : Int32) (own_e4 c0 c1 c2 c3) c3 (own_lq (2 : Int32) (own_e4 c0 c1 c2 c3) c2 (own_lq (1 : Int32) (own_e4 c0 c1 c2 c3) c1 (own_lq (0 : Int32) (own_e4 c0 c1 c2 c3) c0 (-1 : Int32))))) < (own_lq (0 : Int32) (own_e4 c0 c1 c2 c3) c0 (own_lq (1 : Int32) (own_e4 c0 c1 c2 c3) c1 (own_lq (2 : Int32) (own_e4 c0 c1 c2 c3) c2 (own_lq (3 : Int32) (own_e4 c0 c1 c2 c3) c3 (own_e4 c0 c1 c2 c3))))) then (0 : Int32) else ((own_lq (3 : Int32) (own_e4 c0 c1 c2 c3) c3 (own_lq (2 : Int32) (own_e4 c0 c1 c2 c3) c2 (own_lq (1 : Int32) (own_e4 c0 c1 c2 c3) c1 (own_lq (0 : Int32) (own_e4 c0 c1 c2 c3) c0 (-1 : Int32))))) - (own_lq (0 : Int32) (own_e4 c0 c1 c2 c3) c0 (own_lq (1 : Int32) (own_e4 c0 c1 c2 c3) c1 (own_lq (2 : Int32) (own_e4 c0 c1 c2 c3) c2 (own_lq (3 : Int32) (own_e4 c0 c1 c2 c3) c3 (own_e4 c0 c1 c2 c3)))))) + (1 : Int32)) ∧ own_lo (own_ys [own_b c0, own_b c1, own_b c2, own_b c3]) = (own_lq (0 : Int32) (own_e4 c0 c1 c2 c3) c0 (own_lq (1 : Int32) (own_e4 c0 c1 c2 c3) c1 (own_lq (2 : Int32) (own_e4 c0 c1 c2 c3) c2 (own_lq (3 : Int32) (own_e4 c0 c1 c2 c3) c3 (own_e4 c0 c1 c2 c3))))) ∧ 0 ≤ (own_lq (0 : Int32) (own_e4 c0 c1 c2 c3) c0 (own_lq (1 : Int32) (own_e4 c0 c1 c2 c3) c1 (own_lq (2 : Int32) (own_e4 c0 c1 c2 c3) c2 (own_lq (3 : Int32) (own_e4 c0 c1 c2 c3) c3 (own_e4 c0 c1 c2 c3))))).toInt ∧ 0 ≤ (if (own_lq (3 : Int32) (own_e4 c0 c1 c2 c3) c3 (own_lq (2 : Int32) (own_e4 c0 c1 c2 c3) c2 (own_lq (1 : Int32) (own_e4 c0 c1 c2 c3) c1 (own_lq (0 : Int32) (own_e4 c0 c1 c2 c3) c0 (-1 : Int32))))) < (own_lq (0 : Int32) (own_e4 c0 c1 c2 c3) c0 (own_lq (1 : Int32) (own_e4 c0 c1 c2 c3) c1 (own_lq (2 : Int32) (own_e4 c0 c1 c2 c3) c2 (own_lq (3 : Int32) (own_e4 c0 c1 c2 c3) c3 (own_e4 c0 c1 c2 c3))))) then (0 : Int32) else ((own_lq (3 : Int32) (own_e4 c0 c1 c2 c3) c3 (own_lq (2 : Int32) (own_e4 c0 c1 c2 c3) c2 (own_lq (1 : Int32) (own_e4 c0 c1 c2 c3) c1 (own_lq (0 : Int32) (own_e4 c0 c1 c2 c3) c0 (-1 : Int32))))) - (own_lq (0 : Int32) (own_e4 c0 c1 c2 c3) c0 (own_lq (1 : Int32) (own_e4 c0 c1 c2 c3) c1 (own_lq (2 : Int32) (own_e4 c0 c1 c2 c3) c2 (own_lq (3 : Int32) (own_e4 c0 c1 c2 c3) c3 (own_e4 c0 c1 c2 c3)))))) + (1 : Int32)).toInt ∧ (own_lq (0 : Int32) (own_e4 c0 c1 c2 c3) c0 (own_lq (1 : Int32) (own_e4 c0 c1 c2 c3) c1 (own_lq (2 : Int32) (own_e4 c0 c1 c2 c3) c2 (own_lq (3 : Int32) (own_e4 c0 c1 c2 c3) c3 (own_e4 c0 c1 c2 c3))))).toInt + (if (own_lq (3 : Int32) (own_e4 c0 c1 c2 c3) c3 (own_lq (2 : Int32) (own_e4 c0 c1 c2 c3) c2 (own_lq (1 : Int32) (own_e4 c0 c1 c2 c3) c1 (own_lq (0 : Int32) (own_e4 c0 c1 c2 c3) c0 (-1 : Int32))))) < (own_lq (0 : Int32) (own_e4 c0 c1 c2 c3) c0 (own_lq (1 : Int32) (own_e4 c0 c1 c2 c3) c1 (own_lq (2 : Int32) (own_e4 c0 c1 c2 c3) c2 (own_lq (3 : Int32) (own_e4 c0 c1 c2 c3) c3 (own_e4 c0 c1 c2 c3))))) then (0 : Int32) else ((own_lq (3 : Int32) (own_e4 c0 c1 c2 c3) c3 (own_lq (2 : Int32) (own_e4 c0 c1 c2 c3) c2 (own_lq (1 : Int32) (own_e4 c0 c1 c2 c3) c1 (own_lq (0 : Int32) (own_e4 c0 c1 c2 c3) c0 (-1 : Int32))))) - (own_lq (0 : Int32) (own_e4 c0 c1 c2 c3) c0 (own_lq (1 : Int32) (own_e4 c0 c1 c2 c3) c1 (own_lq (2 : Int32) (own_e4 c0 c1 c2 c3) c2 (own_lq (3 : Int32) (own_e4 c0 c1 c2 c3) c3 (own_e4 c0 c1 c2 c3)))))) + (1 : Int32)).toInt ≤ (own_e4 c0 c1 c2 c3 : Int32).toInt ∧ (own_e4 c0 c1 c2 c3).toInt ≤ 4 ∧ ∀ j : Nat, (j : Int) < (own_e4 c0 c1 c2 c3).toInt → own_c ((own_ys [own_b c0, own_b c1, own_b c2, own_b c3]).getD j 0) = ([c0, c1, c2, c3] : List Int32).getD j 0 := by
  by_cases q0 : c0 = (59 : Int32)
  · have he : own_e4 c0 c1 c2 c3 = (0 : Int32) := by rw [own_e4, if_pos q0]
    have hx : own_ixx (59 : Int32) [own_b c0, own_b c1, own_b c2, own_b c3] = (0 : Int32) := by
      show own_ix4 (59 : Int32) (own_b c0) (own_b c1) (own_b c2) (own_b c3) = _
      rw [own_ix4, show (59 : Int32).toInt8.toInt32 = 59 from by decide, if_pos ((own_beq hk0 (by decide) (by decide)).mpr q0)]
    have hy : own_ys [own_b c0, own_b c1, own_b c2, own_b c3] = [] := by
      rw [own_ys, hx, if_neg (by decide), own_sub, show (0 : Int32).toNatClampNeg = 0 from by decide]
      rfl
    rw [he, hy]
    have k0 : ∀ p : Int32, own_lq (0 : Int32) (0 : Int32) c0 p = p := fun p => own_lqs (by decide)
    have k1 : ∀ p : Int32, own_lq (1 : Int32) (0 : Int32) c1 p = p := fun p => own_lqs (by decide)
    have k2 : ∀ p : Int32, own_lq (2 : Int32) (0 : Int32) c2 p = p := fun p => own_lqs (by decide)
    have k3 : ∀ p : Int32, own_lq (3 : Int32) (0 : Int32) c3 p = p := fun p => own_lqs (by decide)
    first | rw [k0, k0, k1, k1, k2, k2, k3, k3] | simp only [k0, k1, k2, k3]
    obtain ⟨a1, a2, a3, a4, a5⟩ := own_mid0 (c0 := c0) (c1 := c1) (c2 := c2) (c3 := c3)
    refine ⟨a1, a2, a3, a4, a5, by decide, fun j hj => ?_⟩
    rw [show (0 : Int32).toInt = 0 from by decide] at hj
    omega
  · skip
    by_cases q1 : c1 = (59 : Int32)
    · have he : own_e4 c0 c1 c2 c3 = (1 : Int32) := by rw [own_e4, if_neg q0, if_pos q1]
      have hx : own_ixx (59 : Int32) [own_b c0, own_b c1, own_b c2, own_b c3] = (1 : Int32) := by
        show own_ix4 (59 : Int32) (own_b c0) (own_b c1) (own_b c2) (own_b c3) = _
        rw [own_ix4, show (59 : Int32).toInt8.toInt32 = 59 from by decide, if_neg (fun q => q0 ((own_beq hk0 (by decide) (by decide)).mp q)), if_pos ((own_beq hk1 (by decide) (by decide)).mpr q1)]
      have hy : own_ys [own_b c0, own_b c1, own_b c2, own_b c3] = [own_b c0] := by
        rw [own_ys, hx, if_neg (by decide), own_sub, show (0 : Int32).toNatClampNeg = 0 from by decide, show (1 : Int32).toNatClampNeg = 1 from by decide]
        rfl
      rw [he, hy]
      have k1 : ∀ p : Int32, own_lq (1 : Int32) (1 : Int32) c1 p = p := fun p => own_lqs (by decide)
      have k2 : ∀ p : Int32, own_lq (2 : Int32) (1 : Int32) c2 p = p := fun p => own_lqs (by decide)
      have k3 : ∀ p : Int32, own_lq (3 : Int32) (1 : Int32) c3 p = p := fun p => own_lqs (by decide)
      first | rw [k1, k1, k2, k2, k3, k3] | simp only [k1, k2, k3]
      obtain ⟨a1, a2, a3, a4, a5⟩ := own_mid1 (c0 := c0) (c1 := c1) (c2 := c2) (c3 := c3) hk0
      refine ⟨a1, a2, a3, a4, a5, by decide, fun j hj => ?_⟩
      rw [show (1 : Int32).toInt = 1 from by decide] at hj
      rcases (by omega : j = 0) with rfl
      · exact own_bc hk0
    · skip
      by_cases q2 : c2 = (59 : Int32)
      · have he : own_e4 c0 c1 c2 c3 = (2 : Int32) := by rw [own_e4, if_neg q0, if_neg q1, if_pos q2]
        have hx : own_ixx (59 : Int32) [own_b c0, own_b c1, own_b c2, own_b c3] = (2 : Int32) := by
          show own_ix4 (59 : Int32) (own_b c0) (own_b c1) (own_b c2) (own_b c3) = _
          rw [own_ix4, show (59 : Int32).toInt8.toInt32 = 59 from by decide, if_neg (fun q => q0 ((own_beq hk0 (by decide) (by decide)).mp q)), if_neg (fun q => q1 ((own_beq hk1 (by decide) (by decide)).mp q)), if_pos ((own_beq hk2 (by decide) (by decide)).mpr q2)]
        have hy : own_ys [own_b c0, own_b c1, own_b c2, own_b c3] = [own_b c0, own_b c1] := by
          rw [own_ys, hx, if_neg (by decide), own_sub, show (0 : Int32).toNatClampNeg = 0 from by decide, show (2 : Int32).toNatClampNeg = 2 from by decide]
          rfl
        rw [he, hy]
        have k2 : ∀ p : Int32, own_lq (2 : Int32) (2 : Int32) c2 p = p := fun p => own_lqs (by decide)
        have k3 : ∀ p : Int32, own_lq (3 : Int32) (2 : Int32) c3 p = p := fun p => own_lqs (by decide)
        first | rw [k2, k2, k3, k3] | simp only [k2, k3]
        obtain ⟨a1, a2, a3, a4, a5⟩ := own_mid2 (c0 := c0) (c1 := c1) (c2 := c2) (c3 := c3) hk0 hk1
        refine ⟨a1, a2, a3, a4, a5, by decide, fun j hj => ?_⟩
        rw [show (2 : Int32).toInt = 2 from by decide] at hj
        rcases (by omega : j = 0 ∨ j = 1) with rfl | rfl
        · exact own_bc hk0
        · exact own_bc hk1
      · skip
        by_cases q3 : c3 = (59 : Int32)
        · have he : own_e4 c0 c1 c2 c3 = (3 : Int32) := by rw [own_e4, if_neg q0, if_neg q1, if_neg q2, if_pos q3]
          have hx : own_ixx (59 : Int32) [own_b c0, own_b c1, own_b c2, own_b c3] = (3 : Int32) := by
            show own_ix4 (59 : Int32) (own_b c0) (own_b c1) (own_b c2) (own_b c3) = _
            rw [own_ix4, show (59 : Int32).toInt8.toInt32 = 59 from by decide, if_neg (fun q => q0 ((own_beq hk0 (by decide) (by decide)).mp q)), if_neg (fun q => q1 ((own_beq hk1 (by decide) (by decide)).mp q)), if_neg (fun q => q2 ((own_beq hk2 (by decide) (by decide)).mp q)), if_pos ((own_beq hk3 (by decide) (by decide)).mpr q3)]
          have hy : own_ys [own_b c0, own_b c1, own_b c2, own_b c3] = [own_b c0, own_b c1, own_b c2] := by
            rw [own_ys, hx, if_neg (by decide), own_sub, show (0 : Int32).toNatClampNeg = 0 from by decide, show (3 : Int32).toNatClampNeg = 3 from by decide]
            rfl
          rw [he, hy]
          have k3 : ∀ p : Int32, own_lq (3 : Int32) (3 : Int32) c3 p = p := fun p => own_lqs (by decide)
          first | rw [k3, k3] | simp only [k3]
          obtain ⟨a1, a2, a3, a4, a5⟩ := own_mid3 (c0 := c0) (c1 := c1) (c2 := c2) (c3 := c3) hk0 hk1 hk2
          refine ⟨a1, a2, a3, a4, a5, by decide, fun j hj => ?_⟩
          rw [show (3 : Int32).toInt = 3 from by decide] at hj
          rcases (by omega : j = 0 ∨ j = 1 ∨ j = 2) with rfl | rfl | rfl
          · exact own_bc hk0
          · exact own_bc hk1
          · exact own_bc hk2
        · skip
          have he : own_e4 c0 c1 c2 c3 = (4 : Int32) := by rw [own_e4, if_neg q0, if_neg q1, if_neg q2, if_neg q3]
          have hx : own_ixx (59 : Int32) [own_b c0, own_b c1, own_b c2, own_b c3] = (-1 : Int32) := by
            show own_ix4 (59 : Int32) (own_b c0) (own_b c1) (own_b c2) (own_b c3) = _
            rw [own_ix4, show (59 : Int32).toInt8.toInt32 = 59 from by decide, if_neg (fun q => q0 ((own_beq hk0 (by decide) (by decide)).mp q)), if_neg (fun q => q1 ((own_beq hk1 (by decide) (by decide)).mp q)), if_neg (fun q => q2 ((own_beq hk2 (by decide) (by decide)).mp q)), if_neg (fun q => q3 ((own_beq hk3 (by decide) (by decide)).mp q))]
          have hy : own_ys [own_b c0, own_b c1, own_b c2, own_b c3] = [own_b c0, own_b c1, own_b c2, own_b c3] := by
            rw [own_ys, hx, if_pos (by decide)]
          rw [he, hy]
          obtain ⟨a1, a2, a3, a4, a5⟩ := own_mid4 (c0 := c0) (c1 := c1) (c2 := c2) (c3 := c3) hk0 hk1 hk2 hk3
          refine ⟨a1, a2, a3, a4, a5, by decide, fun j hj => ?_⟩
          rw [show (4 : Int32).toInt = 4 from by decide] at hj
          rcases (by omega : j = 0 ∨ j = 1 ∨ j = 2 ∨ j = 3) with rfl | rfl | rfl | rfl
          · exact own_bc hk0
          · exact own_bc hk1
          · exact own_bc hk2
          · exact own_bc hk3
theorem d1_0 : decode method_2_code 0 = .ok (.iload_n 0, 1) := by decide +kernel
theorem d1_1 : decode method_2_code 1 = .ok (.iconst 3, 1) := by decide +kernel
theorem d1_2 : decode method_2_code 2 = .ok (.iand, 1) := by decide +kernel
theorem d1_3 : decode method_2_code 3 = .ok (.istore_n 1, 1) := by decide +kernel
theorem d1_4 : decode method_2_code 4 = .ok (.iload_n 0, 1) := by decide +kernel
theorem d1_5 : decode method_2_code 5 = .ok (.iconst 2, 1) := by decide +kernel
theorem d1_6 : decode method_2_code 6 = .ok (.iushr, 1) := by decide +kernel
theorem d1_7 : decode method_2_code 7 = .ok (.sipush 255, 3) := by decide +kernel
theorem d1_10 : decode method_2_code 10 = .ok (.iand, 1) := by decide +kernel
theorem d1_11 : decode method_2_code 11 = .ok (.istore_n 2, 1) := by decide +kernel
theorem d1_12 : decode method_2_code 12 = .ok (.iload_n 1, 1) := by decide +kernel
theorem d1_13 : decode method_2_code 13 = .ok (.ifCond .ne 6, 3) := by decide +kernel
theorem d1_16 : decode method_2_code 16 = .ok (.bipush 59, 2) := by decide +kernel
theorem d1_18 : decode method_2_code 18 = .ok (.ireturn, 1) := by decide +kernel
theorem d1_19 : decode method_2_code 19 = .ok (.iload_n 1, 1) := by decide +kernel
theorem d1_20 : decode method_2_code 20 = .ok (.iconst 1, 1) := by decide +kernel
theorem d1_21 : decode method_2_code 21 = .ok (.if_icmp .ne 22, 3) := by decide +kernel
theorem d1_24 : decode method_2_code 24 = .ok (.iload_n 2, 1) := by decide +kernel
theorem d1_25 : decode method_2_code 25 = .ok (.iconst 1, 1) := by decide +kernel
theorem d1_26 : decode method_2_code 26 = .ok (.iand, 1) := by decide +kernel
theorem d1_27 : decode method_2_code 27 = .ok (.ifCond .ne 8, 3) := by decide +kernel
theorem d1_30 : decode method_2_code 30 = .ok (.bipush 32, 2) := by decide +kernel
theorem d1_32 : decode method_2_code 32 = .ok (.goto 10, 3) := by decide +kernel
theorem d1_42 : decode method_2_code 42 = .ok (.ireturn, 1) := by decide +kernel
theorem d1_35 : decode method_2_code 35 = .ok (.iload_n 2, 1) := by decide +kernel
theorem d1_36 : decode method_2_code 36 = .ok (.iconst 1, 1) := by decide +kernel
theorem d1_37 : decode method_2_code 37 = .ok (.iushr, 1) := by decide +kernel
theorem d1_38 : decode method_2_code 38 = .ok (.bipush 31, 2) := by decide +kernel
theorem d1_40 : decode method_2_code 40 = .ok (.iand, 1) := by decide +kernel
theorem d1_41 : decode method_2_code 41 = .ok (.i2c, 1) := by decide +kernel
theorem d1_43 : decode method_2_code 43 = .ok (.iload_n 2, 1) := by decide +kernel
theorem d1_44 : decode method_2_code 44 = .ok (.i2c, 1) := by decide +kernel
theorem d1_45 : decode method_2_code 45 = .ok (.ireturn, 1) := by decide +kernel
theorem pn_HeaderValueTypeOfPinLaw : plainName "com/example/partwright/partwright/reader/HeaderValueTypeOfPinLaw" = true := by first | (simp [plainName, overriddenIn]; done) | decide +kernel
theorem ef_rm1 (m : MethodId) (x0 : Int32) : entryFrame m #[(.int x0)] 3 = mkF m 0 #[.val (.int x0), .unset, .unset] [] := by first | (simp [entryFrame, mkF, argsToLocals, Value.category]; done) | rfl
def Q1 (Z : State) (p1 : Int32) (h0 : Heap) (n0 : Nat) (v : Option Value) (h : Heap) (L : List Loc) : Prop := ∃ (r : Int32), v = some (.int r) ∧ (own_ok r) ∧ Fr n0 L ∧ h = h0
set_option maxRecDepth 65536 in
set_option maxHeartbeats 40000000 in
theorem rm1 (l : Launch) (Z : State) (a0 : Array Value) (hw : ∀ d ∈ tables_1, d.before a0 Z = true) (ws : List Jvm.Cond) (p1 : Int32) (h0 : Heap) (n0 : Nat) (O0 : Old Z n0 h0) :
    MetFree l (⟨"com/example/partwright/partwright/reader/HeaderValueTypeOfPinLaw", "draw", "(I)C"⟩ : MethodName) (head1 (Jvm.Cond.code (⟨"com/example/partwright/partwright/reader/HeaderValueTypeOfPinLaw", "draw", "(I)C"⟩ : MethodName) method_2_code 3 (some .char) :: ws) ({ frames := 0, cells := 0, slots := 0, locals := 0 } : Room)) (fun a U => a = #[(.int p1)] ∧ Z.Warmed39 U.vm ∧ U.heap = h0) (fun _ _ _ _ _ => True) (fun _ U o U' => ∃ v L, o = .returned v ∧ Q1 Z p1 h0 n0 v U'.heap L ∧ FrameEnd U o U' L ({ frames := 0, cells := 0, slots := 0, locals := 0 } : Room).cells ({ frames := 0, cells := 0, slots := 0, locals := 0 } : Room).slots) := by
  refine MetFree.of_bodySF (plainFor_of_name pn_HeaderValueTypeOfPinLaw) hisR ?_
  intro p e s m args below meth c s₁ Bd hml0 hP hK
  obtain ⟨rfl, hZ, hh⟩ := hP
  have hx := Bd.exec
  have hby := Bd.bytes
  have hlk : meth.locks = false := BodyLoose.notSynchronized Bd
  have hml : c.maxLocals = 3 := hml0
  have hown : s.vm.findClass "com/example/partwright/partwright/reader/HeaderValueTypeOfPinLaw" = some m.cls := findClass_of_methodNamed Bd.named
  have hnm := (name_of_methodNamed Bd.named Bd.method).1
  have X0 : Stand p l e ({ frames := 0, cells := 0, slots := 0, locals := 0 } : Room) s m #[(.int p1)] below meth c s₁ [] 0 0 := Stand.of_body Bd
  have e0 : s₁.heap = h0 := by rw [← hh, Bd.state]; rfl
  have N0 := Fr.nil n0
  show Goes p e below s (Q1 Z p1 h0 n0) ({ frames := 0, cells := 0, slots := 0, locals := 0 } : Room).cells ({ frames := 0, cells := 0, slots := 0, locals := 0 } : Room).slots (s₁.setTop (entryFrame m #[(.int p1)] 3))
  refine Goes.enter (g' := (mkF m 0 #[.val (.int p1), .unset, .unset] [])) (ef_rm1 m p1) ?_
  refine Goes.step (fun _ k => pw_iloadN X0.here hx (hb hby d1_0) rfl _ (pw_iconst X0.here hx (v := (3 : Int32)) (hb hby d1_1) rfl _ (pw_iand X0.here hx (hb hby d1_2) _ (pw_istoreN X0.here hx (l' := #[.val (.int p1), .val (.int (p1 &&& (3 : Int32))), .unset]) (hb hby d1_3) rfl _ (pw_iloadN X0.here hx (hb hby d1_4) rfl _ (pw_iconst X0.here hx (v := (2 : Int32)) (hb hby d1_5) rfl _ k)))))) ?_
  refine Goes.step (B := s₁.setTop (mkF m 7 #[.val (.int p1), .val (.int (p1 &&& (3 : Int32))), .unset] [(.int ((p1.toUInt32 >>> ((2 : Int32) &&& 31).toUInt32).toInt32))])) (fun _ k => XS.iushr X0.here hx rfl (hb hby d1_6) rfl k) ?_
  refine Goes.step (fun _ k => pw_sipush X0.here hx (v := (255 : Int32)) (hb hby d1_7) rfl _ (pw_iand X0.here hx (hb hby d1_10) _ (pw_istoreN X0.here hx (l' := #[.val (.int p1), .val (.int (p1 &&& (3 : Int32))), .val (.int (((p1.toUInt32 >>> ((2 : Int32) &&& 31).toUInt32).toInt32) &&& (255 : Int32)))]) (hb hby d1_11) rfl _ (pw_iloadN X0.here hx (hb hby d1_12) rfl _ k)))) ?_
  by_cases hc13_0 : (p1 &&& (3 : Int32)) = (0 : Int32)
  · refine Goes.step (fun _ k => pw_ifNo X0.here hx (hb hby d1_13) ((if0 _ _).trans (teq hc13_0).2) _ (pw_bipush X0.here hx (v := (59 : Int32)) (hb hby d1_16) rfl _ k)) ?_
    exact Goes.retN X0 hx e0 (t := .char) Bd.returns (by simp) hlk (hb hby d1_18) (by decide) (by decide) (⟨_, rfl, own_okn (by decide) (by decide), N0, rfl⟩)
  · refine Goes.step (fun _ k => pw_ifYes X0.here hx (pc' := 19) (hb hby d1_13) ((if0 _ _).trans (feq hc13_0).2) (by decide) (by decide) _ (pw_iloadN X0.here hx (hb hby d1_19) rfl _ (pw_iconst X0.here hx (v := (1 : Int32)) (hb hby d1_20) rfl _ k))) ?_
    by_cases hc21_1 : (p1 &&& (3 : Int32)) = (1 : Int32)
    · refine Goes.step (fun _ k => pw_icmpNo X0.here hx (hb hby d1_21) (teq hc21_1).2 _ (pw_iloadN X0.here hx (hb hby d1_24) rfl _ (pw_iconst X0.here hx (v := (1 : Int32)) (hb hby d1_25) rfl _ (pw_iand X0.here hx (hb hby d1_26) _ k)))) ?_
      by_cases hc27_2 : ((((p1.toUInt32 >>> ((2 : Int32) &&& 31).toUInt32).toInt32) &&& (255 : Int32)) &&& (1 : Int32)) = (0 : Int32)
      · refine Goes.step (fun _ k => pw_ifNo X0.here hx (hb hby d1_27) ((if0 _ _).trans (teq hc27_2).2) _ (pw_bipush X0.here hx (v := (32 : Int32)) (hb hby d1_30) rfl _ (pw_goto X0.here hx (pc' := 42) (hb hby d1_32) (by decide) (by decide) _ k))) ?_
        exact Goes.retN X0 hx e0 (t := .char) Bd.returns (by simp) hlk (hb hby d1_42) (by decide) (by decide) (⟨_, rfl, own_okn (by decide) (by decide), N0, rfl⟩)
      · refine Goes.step (fun _ k => pw_ifYes X0.here hx (pc' := 35) (hb hby d1_27) ((if0 _ _).trans (feq hc27_2).2) (by decide) (by decide) _ (pw_iloadN X0.here hx (hb hby d1_35) rfl _ (pw_iconst X0.here hx (v := (1 : Int32)) (hb hby d1_36) rfl _ k))) ?_
        refine Goes.step (B := s₁.setTop (mkF m 38 #[.val (.int p1), .val (.int (p1 &&& (3 : Int32))), .val (.int (((p1.toUInt32 >>> ((2 : Int32) &&& 31).toUInt32).toInt32) &&& (255 : Int32)))] [(.int (((((p1.toUInt32 >>> ((2 : Int32) &&& 31).toUInt32).toInt32) &&& (255 : Int32)).toUInt32 >>> ((1 : Int32) &&& 31).toUInt32).toInt32))])) (fun _ k => XS.iushr X0.here hx rfl (hb hby d1_37) rfl k) ?_
        refine Goes.step (fun _ k => pw_bipush X0.here hx (v := (31 : Int32)) (hb hby d1_38) rfl _ (pw_iand X0.here hx (hb hby d1_40) _ k)) ?_
        refine Goes.step (B := s₁.setTop (mkF m 42 #[.val (.int p1), .val (.int (p1 &&& (3 : Int32))), .val (.int (((p1.toUInt32 >>> ((2 : Int32) &&& 31).toUInt32).toInt32) &&& (255 : Int32)))] [(.int ((((((p1.toUInt32 >>> ((2 : Int32) &&& 31).toUInt32).toInt32) &&& (255 : Int32)).toUInt32 >>> ((1 : Int32) &&& 31).toUInt32).toInt32) &&& (31 : Int32)).toUInt32.toUInt16.toUInt32.toInt32)])) (fun _ k => XS.i2c X0.here hx rfl (hb hby d1_41) rfl k) ?_
        exact Goes.retN X0 hx e0 (t := .char) Bd.returns (by simp) hlk (hb hby d1_42) (by decide) (by decide) (⟨_, rfl, own_okc31 _, N0, rfl⟩)
    · refine Goes.step (fun _ k => pw_icmpYes X0.here hx (pc' := 43) (hb hby d1_21) (feq hc21_1).2 (by decide) (by decide) _ (pw_iloadN X0.here hx (hb hby d1_43) rfl _ k)) ?_
      refine Goes.step (B := s₁.setTop (mkF m 45 #[.val (.int p1), .val (.int (p1 &&& (3 : Int32))), .val (.int (((p1.toUInt32 >>> ((2 : Int32) &&& 31).toUInt32).toInt32) &&& (255 : Int32)))] [(.int (((p1.toUInt32 >>> ((2 : Int32) &&& 31).toUInt32).toInt32) &&& (255 : Int32)).toUInt32.toUInt16.toUInt32.toInt32)])) (fun _ k => XS.i2c X0.here hx rfl (hb hby d1_44) rfl k) ?_
      exact Goes.retN X0 hx e0 (t := .char) Bd.returns (by simp) hlk (hb hby d1_45) (by decide) (by decide) (⟨_, rfl, own_okm _, N0, rfl⟩)
theorem d3_0 : decode jdk_42_method_149_code 0 = .ok (.aload_n 0, 1) := by decide +kernel
theorem d3_1 : decode jdk_42_method_149_code 1 = .ok (.invokespecial 1, 3) := by decide +kernel
theorem own_w16 {Z : State} {a0 : Array Value} (hw : ∀ d ∈ tables_1, d.before a0 Z = true) : (Jvm.Cond.methodLink "java/lang/String" (1 : Nat) ({ cls := "java/lang/Object", name := "<init>", desc := "()V" } : Jvm.MethodName)).before a0 Z = true := hw _ (List.mem_of_getElem? (i := 16) rfl)
theorem own_w17 {Z : State} {a0 : Array Value} (hw : ∀ d ∈ tables_1, d.before a0 Z = true) : (Jvm.Cond.instanceMethod ({ cls := "java/lang/Object", name := "<init>", desc := "()V" } : Jvm.MethodName)).before a0 Z = true := hw _ (List.mem_of_getElem? (i := 17) rfl)
theorem own_w18 {Z : State} {a0 : Array Value} (hw : ∀ d ∈ tables_1, d.before a0 Z = true) : (Jvm.Cond.code ({ cls := "java/lang/Object", name := "<init>", desc := "()V" } : Jvm.MethodName) object_method_1_code (1 : Nat) (Option.none : Option Jvm.ClassFile.FieldType)).before a0 Z = true := hw _ (List.mem_of_getElem? (i := 18) rfl)
theorem d3_4 : decode jdk_42_method_149_code 4 = .ok (.iload_n 3, 1) := by decide +kernel
theorem d3_5 : decode jdk_42_method_149_code 5 = .ok (.ifCond .ne 22, 3) := by decide +kernel
theorem d3_8 : decode jdk_42_method_149_code 8 = .ok (.aload_n 0, 1) := by decide +kernel
theorem d3_9 : decode jdk_42_method_149_code 9 = .ok (.ldc 7, 2) := by decide +kernel
theorem own_w19 {Z : State} {a0 : Array Value} (hw : ∀ d ∈ tables_1, d.before a0 Z = true) : (Jvm.Cond.stringLink "java/lang/String" (7 : Nat) "").before a0 Z = true := hw _ (List.mem_of_getElem? (i := 19) rfl)
theorem own_w8 {Z : State} {a0 : Array Value} (hw : ∀ d ∈ tables_1, d.before a0 Z = true) : (Jvm.Cond.initialized "java/lang/String").before a0 Z = true := hw _ (List.mem_of_getElem? (i := 8) rfl)
theorem own_w7 {Z : State} {a0 : Array Value} (hw : ∀ d ∈ tables_1, d.before a0 Z = true) : (Jvm.Cond.instantiable "java/lang/String" (4 : Nat)).before a0 Z = true := hw _ (List.mem_of_getElem? (i := 7) rfl)
theorem own_w20 {Z : State} {a0 : Array Value} (hw : ∀ d ∈ tables_1, d.before a0 Z = true) : (Jvm.Cond.arrayClass Jvm.ClassFile.FieldType.byte).before a0 Z = true := hw _ (List.mem_of_getElem? (i := 20) rfl)
theorem own_w21 {Z : State} {a0 : Array Value} (hw : ∀ d ∈ tables_1, d.before a0 Z = true) : (Jvm.Cond.laysFinal "java/lang/String" "java/lang/String" "value" "[B").before a0 Z = true := hw _ (List.mem_of_getElem? (i := 21) rfl)
theorem own_w22 {Z : State} {a0 : Array Value} (hw : ∀ d ∈ tables_1, d.before a0 Z = true) : (Jvm.Cond.laysFinal "java/lang/String" "java/lang/String" "coder" "B").before a0 Z = true := hw _ (List.mem_of_getElem? (i := 22) rfl)
theorem own_w23 {Z : State} {a0 : Array Value} (hw : ∀ d ∈ tables_1, d.before a0 Z = true) : (Jvm.Cond.soleField "java/lang/String" "value").before a0 Z = true := hw _ (List.mem_of_getElem? (i := 23) rfl)
theorem own_w24 {Z : State} {a0 : Array Value} (hw : ∀ d ∈ tables_1, d.before a0 Z = true) : (Jvm.Cond.soleField "java/lang/String" "coder").before a0 Z = true := hw _ (List.mem_of_getElem? (i := 24) rfl)
theorem own_wS {Z : State} {a0 : Array Value} (hw : ∀ d ∈ tables_1, d.before a0 Z = true) : ∀ a ∈ Bundle.stringAtoms, a.before a0 Z = true := fun d hd => by
  simp only [Bundle.stringAtoms, List.mem_cons, List.not_mem_nil, or_false] at hd
  rcases hd with rfl | rfl | rfl | rfl | rfl | rfl | rfl
  · exact (own_w8 hw)
  · exact (own_w7 hw)
  · exact (own_w20 hw)
  · exact (own_w21 hw)
  · exact (own_w22 hw)
  · exact (own_w23 hw)
  · exact (own_w24 hw)
theorem d3_11 : decode jdk_42_method_149_code 11 = .ok (.getfield 9, 3) := by decide +kernel
theorem own_w25 {Z : State} {a0 : Array Value} (hw : ∀ d ∈ tables_1, d.before a0 Z = true) : (Jvm.Cond.fieldLink "java/lang/String" (9 : Nat) "java/lang/String" "value" "[B").before a0 Z = true := hw _ (List.mem_of_getElem? (i := 25) rfl)
theorem d3_14 : decode jdk_42_method_149_code 14 = .ok (.putfield 9, 3) := by decide +kernel
theorem d3_17 : decode jdk_42_method_149_code 17 = .ok (.aload_n 0, 1) := by decide +kernel
theorem d3_18 : decode jdk_42_method_149_code 18 = .ok (.ldc 7, 2) := by decide +kernel
theorem d3_20 : decode jdk_42_method_149_code 20 = .ok (.getfield 15, 3) := by decide +kernel
theorem own_w26 {Z : State} {a0 : Array Value} (hw : ∀ d ∈ tables_1, d.before a0 Z = true) : (Jvm.Cond.fieldLink "java/lang/String" (15 : Nat) "java/lang/String" "coder" "B").before a0 Z = true := hw _ (List.mem_of_getElem? (i := 26) rfl)
theorem d3_23 : decode jdk_42_method_149_code 23 = .ok (.putfield 15, 3) := by decide +kernel
theorem d3_26 : decode jdk_42_method_149_code 26 = .ok (.return_, 1) := by decide +kernel
theorem pn_String : plainName "java/lang/String" = true := by first | (simp [plainName, overriddenIn]; done) | decide +kernel
theorem ef_rmSJ_0 (m : MethodId) (x0 : Addr) (x1 : Addr) (x2 : Int32) (x3 : Int32) : entryFrame m #[(.ref x0), (.ref x1), (.int x2), (.int x3), .null] 6 = mkF m 0 #[.val (.ref x0), .val (.ref x1), .val (.int x2), .val (.int x3), .val .null, .unset] [] := by first | (simp [entryFrame, mkF, argsToLocals, Value.category]; done) | rfl
def QSJ_0 (Z : State) (a0r : Addr) (ca : Addr) (kc : ClassId) (cs : Int32) (h0 : Heap) (n0 : Nat) (v : Option Value) (h : Heap) (L : List Loc) : Prop := v = none ∧ Fr n0 L ∧ Keep h0 h [a0r] ∧ Exa Z h a0r "java/lang/String" ∧ ∃ (vb : Addr) (kv : ClassId), Fld Z h a0r "java/lang/String" "value" "[B" (.ref vb) ∧ Fld Z h a0r "java/lang/String" "coder" "B" (.int (0 : Int32)) ∧ Arv Z h vb kv .byte (0 : Int32) [] (.int (0 : Int32))
set_option maxRecDepth 65536 in
set_option maxHeartbeats 40000000 in
theorem rmSJ_0 (l : Launch) (Z : State) (a0 : Array Value) (hw : ∀ d ∈ tables_1, d.before a0 Z = true) (ws : List Jvm.Cond) (a0r : Addr) (ca : Addr) (kc : ClassId) (cs : Int32) (h0 : Heap) (n0 : Nat) (O0 : Old Z n0 h0) (Er : Exa Z h0 a0r "java/lang/String") (gr : n0 ≤ a0r) (Fr_value : Fld Z h0 a0r "java/lang/String" "value" "[B" .null) (Fr_coder : Fld Z h0 a0r "java/lang/String" "coder" "B" (.int (0 : Int32))) (Vc : Arv Z h0 ca kc .char (0 : Int32) [] (.int (0 : Int32))) (Sc : Sta Z h0 "java/lang/String" "COMPACT_STRINGS" "Z" (.int cs)) (hcs : ¬ cs = (0 : Int32)) :
    MetFree l (⟨"java/lang/String", "<init>", "([CIILjava/lang/Void;)V"⟩ : MethodName) (head1 (Jvm.Cond.code (⟨"java/lang/String", "<init>", "([CIILjava/lang/Void;)V"⟩ : MethodName) jdk_42_method_149_code 6 none :: ws) ({ frames := 1, cells := 4, slots := 8, locals := 12 } : Room)) (fun a U => a = #[(.ref a0r), (.ref ca), (.int 0), (.int 0), .null] ∧ Z.Warmed39 U.vm ∧ U.heap = h0 ∧ CHv Z own_EL U.vm h0 ∧ Safe Z own_EL U.vm h0 a0r) (fun _ _ _ _ _ => True) (fun _ U o U' => ∃ v L, o = .returned v ∧ QSJ_0 Z a0r ca kc cs h0 n0 v U'.heap L ∧ CHr Z own_EL U.vm U.heap U'.vm U'.heap ∧ ReturnedEndW U o U' L ({ frames := 1, cells := 4, slots := 8, locals := 12 } : Room).cells ({ frames := 1, cells := 4, slots := 8, locals := 12 } : Room).slots) := by
  refine MetFree.of_bodySF (plainFor_of_name pn_String) hisR ?_
  intro p e s m args below meth c s₁ Bd hml0 hP hK
  obtain ⟨rfl, hZ, hh, hH0, Sf0_a0r⟩ := hP
  have hx := Bd.exec
  have hby := Bd.bytes
  have hlk : meth.locks = false := BodyLoose.notSynchronized Bd
  have hml : c.maxLocals = 6 := hml0
  have hown : s.vm.findClass "java/lang/String" = some m.cls := findClass_of_methodNamed Bd.named
  have hnm := (name_of_methodNamed Bd.named Bd.method).1
  have X0 : Stand p l e ({ frames := 1, cells := 4, slots := 8, locals := 12 } : Room) (s.setVm s.vm) m #[(.ref a0r), (.ref ca), (.int 0), (.int 0), .null] below meth c s₁ [] 0 0 := Stand.of_body Bd
  have e0 : s₁.heap = h0 := by rw [← hh, Bd.state]; rfl
  have N0 := Fr.nil n0
  have hS0 : s.Since s.vm h0.size := (State.WarmedH.refl s).since _
  show GoesH p e below s Z own_EL (QSJ_0 Z a0r ca kc cs h0 n0) ({ frames := 1, cells := 4, slots := 8, locals := 12 } : Room).cells ({ frames := 1, cells := 4, slots := 8, locals := 12 } : Room).slots (s₁.setTop (entryFrame m #[(.ref a0r), (.ref ca), (.int 0), (.int 0), .null] 6))
  refine GoesH.enter (g' := (mkF m 0 #[.val (.ref a0r), .val (.ref ca), .val (.int 0), .val (.int 0), .val .null, .unset] [])) (ef_rmSJ_0 m a0r ca ((0 : Int32)) ((0 : Int32))) ?_
  refine GoesH.step (fun _ k => pw_aloadN X0.here hx (hb hby d3_0) rfl rfl _ k) ?_
  obtain ⟨T1, X1, e1, st1⟩ := initO X0 hx hZ hown (own_w16 hw) (own_w17 hw) (own_w18 hw) e0 (g := (mkF m 1 #[.val (.ref a0r), .val (.ref ca), .val (.int 0), .val (.int 0), .val .null, .unset] [(.ref a0r)])) rfl (by rw [hml]; rfl) rfl (hb hby d3_1) (by decide) (W := 0) (by show 2 * 0 + _ ≤ _; exact Nat.le_of_eq rfl) (by decide)
  refine GoesH.step (B := T1.setTop (mkF m 4 #[.val (.ref a0r), .val (.ref ca), .val (.int 0), .val (.int 0), .val .null, .unset] [])) st1 ?_
  refine GoesH.step (fun _ k => pw_iloadN X1.here hx (hb hby d3_4) rfl _ (pw_ifNo X1.here hx (hb hby d3_5) ((if0 _ _).trans (teq (by decide)).2) _ (pw_aloadN X1.here hx (hb hby d3_8) rfl rfl _ k))) ?_
  obtain ⟨b2, T2, h2, k2, v2, c2, X2, e2, E2, hS2, hk2, hZ2, hown2, Ea2, Fc2, Fv2, Va2, la2, lb2, H2, I2, Sf2, st2⟩ := ldcCH X1 hx hZ hown (own_w19 hw) (own_wS hw) e1 hS0 (Nat.le_refl _) (own_EW hw) (List.mem_of_getElem? (i := 0) rfl) (CHr.refl hH0).1 (vs := []) (z := (0 : Int32)) ⟨by decide, by decide⟩ (by decide) (by decide) (g := (mkF m 9 #[.val (.ref a0r), .val (.ref ca), .val (.int 0), .val (.int 0), .val .null, .unset] [(.ref a0r)])) rfl (hb hby d3_9) (n := 0) (by decide) (by decide) (by decide) (by decide)
  have Sf3 := CHr.safe H2 Er.lt Sf0_a0r
  have O_2 := O0.ext E2
  have CH2 := ((CHr.refl hH0).trans H2)
  have K_2 := (Keep.refl h0 [a0r]).ext E2
  have nl2_a0r := Sf2 _ Sf3
  refine GoesH.step (B := T2.setTop (mkF m 11 #[.val (.ref a0r), .val (.ref ca), .val (.int 0), .val (.int 0), .val .null, .unset] [(.ref b2), (.ref a0r)])) st2 ?_
  obtain ⟨T4, X4, e4, st4⟩ := getF X2 hx hZ2 hown2 (host := "") (Or.inl (own_w25 hw)) Via.refl e2 Fv2 (g := (mkF m 11 #[.val (.ref a0r), .val (.ref ca), .val (.int 0), .val (.int 0), .val .null, .unset] [(.ref b2), (.ref a0r)])) rfl rfl (hb hby d3_11)
  refine GoesH.step (B := T4.setTop (mkF m 14 #[.val (.ref a0r), .val (.ref ca), .val (.int 0), .val (.int 0), .val .null, .unset] [(.ref v2), (.ref a0r)])) st4 ?_
  have f5 := (Er.ext E2)
  have f6 := (Fr_value.ext E2)
  obtain ⟨T7, h7, X7, e7, W7, st7⟩ := putF X4 hx hZ2 hown2 (host := "") (Or.inl (own_w25 hw)) Via.refl e4 f6 f5 (Or.inr ⟨(own_w21 hw), rfl, hnm⟩) (own_w7 hw) (ty := (.array .byte)) (by decide) rfl rfl (g := (mkF m 14 #[.val (.ref a0r), .val (.ref ca), .val (.int 0), .val (.int 0), .val .null, .unset] [(.ref v2), (.ref a0r)])) rfl rfl (hb hby d3_14)
  have Sf8 := Safe.wr W7 Sf3 CH2.1 Sf3
  have CH9 := CH2.trans (CHr.wr W7 Sf3 CH2.1)
  have Fw7 := f6.same W7
  have N7 := Fr.snoc X7 N0 gr
  have O_7 := O_2.wr W7 gr
  have K_7 := K_2.wr W7 (Or.inl (List.mem_of_getElem? (i := 0) rfl))
  refine GoesH.step (B := T7.setTop (mkF m 17 #[.val (.ref a0r), .val (.ref ca), .val (.int 0), .val (.int 0), .val .null, .unset] [])) st7 ?_
  refine GoesH.step (fun _ k => pw_aloadN X7.here hx (hb hby d3_17) rfl rfl _ k) ?_
  obtain ⟨b10, T10, h10, k10, v10, c10, X10, e10, E10, hS10, hk10, hZ10, hown10, Ea10, Fc10, Fv10, Va10, la10, lb10, H10, I10, Sf10, st10⟩ := ldcCH X7 hx hZ2 hown2 (own_w19 hw) (own_wS hw) e7 hS2 (Nat.le_trans hk2 (Nat.le_of_eq W7.size.symm)) (own_EW hw) (List.mem_of_getElem? (i := 0) rfl) CH9.1 (vs := []) (z := (0 : Int32)) ⟨by decide, by decide⟩ (by decide) (by decide) (g := (mkF m 18 #[.val (.ref a0r), .val (.ref ca), .val (.int 0), .val (.int 0), .val .null, .unset] [(.ref a0r)])) rfl (hb hby d3_18) (n := 0) (by decide) (by decide) (by decide) (by decide)
  have f12 := (f5.wr W7)
  have Sf11 := CHr.safe H10 f12.lt Sf8
  have O_10 := O_7.ext E10
  have CH10 := (CH9.trans H10)
  have K_10 := K_7.ext E10
  have nl10_a0r := Sf10 _ Sf11
  refine GoesH.step (B := T10.setTop (mkF m 20 #[.val (.ref a0r), .val (.ref ca), .val (.int 0), .val (.int 0), .val .null, .unset] [(.ref b10), (.ref a0r)])) st10 ?_
  obtain ⟨T13, X13, e13, st13⟩ := getF X10 hx hZ10 hown10 (host := "") (Or.inl (own_w26 hw)) Via.refl e10 Fc10 (g := (mkF m 20 #[.val (.ref a0r), .val (.ref ca), .val (.int 0), .val (.int 0), .val .null, .unset] [(.ref b10), (.ref a0r)])) rfl rfl (hb hby d3_20)
  refine GoesH.step (B := T13.setTop (mkF m 23 #[.val (.ref a0r), .val (.ref ca), .val (.int 0), .val (.int 0), .val .null, .unset] [(.int 0), (.ref a0r)])) st13 ?_
  have f14 := (f12.ext E10)
  have f15 := (((Fr_coder.ext E2).other W7 (Or.inr (slot_ne (Or.inr (own_w22 hw)) (Or.inr (own_w21 hw)) (by decide) (t := .byte) (t' := (.array .byte)) (by decide) (by decide)))).ext E10)
  obtain ⟨T16, h16, X16, e16, W16, st16⟩ := putFN X13 hx hZ10 hown10 (own_w26 hw) Via.refl e13 f15 f14 (Or.inr ⟨(own_w22 hw), rfl, hnm⟩) (own_w7 hw) (ty := .byte) (v' := (.int 0)) (by decide) rfl (by decide) (g := (mkF m 23 #[.val (.ref a0r), .val (.ref ca), .val (.int 0), .val (.int 0), .val .null, .unset] [(.int 0), (.ref a0r)])) rfl rfl (hb hby d3_23)
  have Sf17 := Safe.wr W16 Sf11 CH10.1 Sf11
  have CH18 := CH10.trans (CHr.wr W16 Sf11 CH10.1)
  have Fw16 := f15.same W16
  have N16 := Fr.snoc X16 N7 gr
  have O_16 := O_10.wr W16 gr
  have K_16 := K_10.wr W16 (Or.inl (List.mem_of_getElem? (i := 0) rfl))
  refine GoesH.step (B := T16.setTop (mkF m 26 #[.val (.ref a0r), .val (.ref ca), .val (.int 0), .val (.int 0), .val .null, .unset] [])) st16 ?_
  have f19 := (f14.wr W16)
  have f20 := ((Fw7.ext E10).other W16 (Or.inr (slot_ne (Or.inr (own_w21 hw)) (Or.inr (own_w22 hw)) (by decide) (t := (.array .byte)) (t' := .byte) (by decide) (by decide))))
  have f21 := (((Va2.other W7 (Ne.symm nl2_a0r.2)).ext E10).other W16 (Ne.symm nl2_a0r.2))
  exact GoesH.retV X16 hS10 (Nat.le_trans hk10 (Nat.le_of_eq W16.size.symm)) hZ10 (own_EW hw) (by rw [show s.heap = h0 from hh]; exact CH18) hx e16 Bd.returns hlk (hb hby d3_26) (by decide) (by decide) (⟨rfl, N16, K_16, f19, v2, c2, f20, Fw16, f21⟩)
theorem d2_0 : decode jdk_42_method_3_code 0 = .ok (.aload_n 0, 1) := by decide +kernel
theorem d2_1 : decode jdk_42_method_3_code 1 = .ok (.aload_n 1, 1) := by decide +kernel
theorem d2_2 : decode jdk_42_method_3_code 2 = .ok (.iconst 0, 1) := by decide +kernel
theorem d2_3 : decode jdk_42_method_3_code 3 = .ok (.aload_n 1, 1) := by decide +kernel
theorem d2_4 : decode jdk_42_method_3_code 4 = .ok (.arraylength, 1) := by decide +kernel
theorem d2_5 : decode jdk_42_method_3_code 5 = .ok (.aconst_null, 1) := by decide +kernel
theorem d2_6 : decode jdk_42_method_3_code 6 = .ok (.invokespecial 27, 3) := by decide +kernel
theorem own_w12 {Z : State} {a0 : Array Value} (hw : ∀ d ∈ tables_1, d.before a0 Z = true) : (Jvm.Cond.methodLink "java/lang/String" (27 : Nat) ({ cls := "java/lang/String", name := "<init>", desc := "([CIILjava/lang/Void;)V" } : Jvm.MethodName)).before a0 Z = true := hw _ (List.mem_of_getElem? (i := 12) rfl)
theorem own_w15 {Z : State} {a0 : Array Value} (hw : ∀ d ∈ tables_1, d.before a0 Z = true) : (Jvm.Cond.code ({ cls := "java/lang/String", name := "<init>", desc := "([CIILjava/lang/Void;)V" } : Jvm.MethodName) jdk_42_method_149_code (6 : Nat) (Option.none : Option Jvm.ClassFile.FieldType)).before a0 Z = true := hw _ (List.mem_of_getElem? (i := 15) rfl)
theorem pd_0 : parseMethodDescriptor "([CIILjava/lang/Void;)V" = some ⟨[(.array .char), .int, .int, (.object "java/lang/Void")], none⟩ := by decide +kernel
theorem own_w13 {Z : State} {a0 : Array Value} (hw : ∀ d ∈ tables_1, d.before a0 Z = true) : (Jvm.Cond.instanceMethod ({ cls := "java/lang/String", name := "<init>", desc := "([CIILjava/lang/Void;)V" } : Jvm.MethodName)).before a0 Z = true := hw _ (List.mem_of_getElem? (i := 13) rfl)
theorem d2_9 : decode jdk_42_method_3_code 9 = .ok (.return_, 1) := by decide +kernel
theorem ef_rmSI_0 (m : MethodId) (x0 : Addr) (x1 : Addr) : entryFrame m #[(.ref x0), (.ref x1)] 2 = mkF m 0 #[.val (.ref x0), .val (.ref x1)] [] := by first | (simp [entryFrame, mkF, argsToLocals, Value.category]; done) | rfl
def QSI_0 (Z : State) (a0r : Addr) (ca : Addr) (kc : ClassId) (cs : Int32) (h0 : Heap) (n0 : Nat) (v : Option Value) (h : Heap) (L : List Loc) : Prop := v = none ∧ Fr n0 L ∧ Keep h0 h [a0r] ∧ Exa Z h a0r "java/lang/String" ∧ ∃ (vb : Addr) (kv : ClassId), Fld Z h a0r "java/lang/String" "value" "[B" (.ref vb) ∧ Fld Z h a0r "java/lang/String" "coder" "B" (.int (0 : Int32)) ∧ Arv Z h vb kv .byte (0 : Int32) [] (.int (0 : Int32))
set_option maxRecDepth 65536 in
set_option maxHeartbeats 40000000 in
theorem rmSI_0 (l : Launch) (Z : State) (a0 : Array Value) (hw : ∀ d ∈ tables_1, d.before a0 Z = true) (ws : List Jvm.Cond) (a0r : Addr) (ca : Addr) (kc : ClassId) (cs : Int32) (h0 : Heap) (n0 : Nat) (O0 : Old Z n0 h0) (Er : Exa Z h0 a0r "java/lang/String") (gr : n0 ≤ a0r) (Fr_value : Fld Z h0 a0r "java/lang/String" "value" "[B" .null) (Fr_coder : Fld Z h0 a0r "java/lang/String" "coder" "B" (.int (0 : Int32))) (Vc : Arv Z h0 ca kc .char (0 : Int32) [] (.int (0 : Int32))) (Sc : Sta Z h0 "java/lang/String" "COMPACT_STRINGS" "Z" (.int cs)) (hcs : ¬ cs = (0 : Int32)) :
    MetFree l (⟨"java/lang/String", "<init>", "([C)V"⟩ : MethodName) (head1 (Jvm.Cond.code (⟨"java/lang/String", "<init>", "([C)V"⟩ : MethodName) jdk_42_method_3_code 2 none :: ws) ({ frames := 2, cells := 4, slots := 8, locals := 29 } : Room)) (fun a U => a = #[(.ref a0r), (.ref ca)] ∧ Z.Warmed39 U.vm ∧ U.heap = h0 ∧ CHv Z own_EL U.vm h0 ∧ Safe Z own_EL U.vm h0 a0r) (fun _ _ _ _ _ => True) (fun _ U o U' => ∃ v L, o = .returned v ∧ QSI_0 Z a0r ca kc cs h0 n0 v U'.heap L ∧ CHr Z own_EL U.vm U.heap U'.vm U'.heap ∧ ReturnedEndW U o U' L ({ frames := 2, cells := 4, slots := 8, locals := 29 } : Room).cells ({ frames := 2, cells := 4, slots := 8, locals := 29 } : Room).slots) := by
  refine MetFree.of_bodySF (plainFor_of_name pn_String) hisR ?_
  intro p e s m args below meth c s₁ Bd hml0 hP hK
  obtain ⟨rfl, hZ, hh, hH0, Sf0_a0r⟩ := hP
  have hx := Bd.exec
  have hby := Bd.bytes
  have hlk : meth.locks = false := BodyLoose.notSynchronized Bd
  have hml : c.maxLocals = 2 := hml0
  have hown : s.vm.findClass "java/lang/String" = some m.cls := findClass_of_methodNamed Bd.named
  have hnm := (name_of_methodNamed Bd.named Bd.method).1
  have X0 : Stand p l e ({ frames := 2, cells := 4, slots := 8, locals := 29 } : Room) (s.setVm s.vm) m #[(.ref a0r), (.ref ca)] below meth c s₁ [] 0 0 := Stand.of_body Bd
  have e0 : s₁.heap = h0 := by rw [← hh, Bd.state]; rfl
  have N0 := Fr.nil n0
  have hS0 : s.Since s.vm h0.size := (State.WarmedH.refl s).since _
  show GoesH p e below s Z own_EL (QSI_0 Z a0r ca kc cs h0 n0) ({ frames := 2, cells := 4, slots := 8, locals := 29 } : Room).cells ({ frames := 2, cells := 4, slots := 8, locals := 29 } : Room).slots (s₁.setTop (entryFrame m #[(.ref a0r), (.ref ca)] 2))
  refine GoesH.enter (g' := (mkF m 0 #[.val (.ref a0r), .val (.ref ca)] [])) (ef_rmSI_0 m a0r ca) ?_
  refine GoesH.step (fun _ k => pw_aloadN X0.here hx (hb hby d2_0) rfl rfl _ (pw_aloadN X0.here hx (hb hby d2_1) rfl rfl _ (pw_iconst X0.here hx (v := (0 : Int32)) (hb hby d2_2) rfl _ (pw_aloadN X0.here hx (hb hby d2_3) rfl rfl _ k)))) ?_
  obtain ⟨c1, Ar1, -, Sz1, Nn1, -, -⟩ := id Vc
  have len1 := X0.arraylength hx (by rw [e0]; exact Ar1.1) (State.isArrayOf_alike hZ.alike Ar1.2.1) (g := (mkF m 4 #[.val (.ref a0r), .val (.ref ca)] [(.ref ca), (.int 0), (.ref ca), (.ref a0r)])) rfl rfl (hb hby d2_4)
  rw [len_of Sz1 Nn1] at len1
  refine GoesH.step (B := s₁.setTop (mkF m 5 #[.val (.ref a0r), .val (.ref ca)] [(.int 0), (.int 0), (.ref ca), (.ref a0r)])) len1 ?_
  refine GoesH.step (fun _ k => pw_aconstNull X0.here hx (hb hby d2_5) _ k) ?_
  obtain ⟨_, vw2, ⟨T2, L2, k2, n2⟩, -, Xr2, S22, sz2, ⟨Lc2, hQ2, l2, y2, z2, Hc2⟩, st2⟩ := X0.specialBackS hx (y := (⟨"java/lang/String", "<init>", "([CIILjava/lang/Void;)V"⟩ : MethodName)) rfl hown (mvT hZ (own_w12 hw)) (mvT hZ (own_w13 hw)) (mvT hZ (own_w15 hw)) (by decide) (backOfSHs (W := 0) (rmSJ_0 l Z a0 hw [] a0r ca kc cs h0 n0 O0 Er gr Fr_value Fr_coder Vc Sc hcs) hZ (own_w15 hw) (own_w8 hw) (by decide) (by decide) (own_EW hw) (CHr.refl hH0).1 Er.lt Sf0_a0r) (g := (mkF m 6 #[.val (.ref a0r), .val (.ref ca)] [.null, (.int 0), (.int 0), (.ref ca), (.ref a0r)])) rfl (by rw [hml]; rfl) (Steps.refl _) (a := a0r) (argsL := [(.ref ca), (.int 0), (.int 0), .null]) (rest := []) (lenOf pd_0 rfl) rfl (by show 2 * 0 + _ ≤ _; exact Nat.le_of_eq rfl) (hb hby d2_6) (fun _ _ => ⟨rfl, e0, (by decide : 0 + 4 ≤ _), (by decide : 0 + 8 ≤ _)⟩)
  dsimp only [Pt.U, Pt.locs, Pt.cells, Pt.slots] at Xr2 S22 sz2 l2 y2 z2 st2 hQ2 Hc2
  subst l2 y2 z2
  obtain ⟨X2, hS2, hZ2, hown2⟩ := rebS hS0 (by rw [e0]; exact (Nat.le_refl _)) Xr2 S22 sz2 hZ hown
  have CHc2 := (CHr.refl hH0).trans Hc2
  obtain ⟨rfl, Nq2, Kp2, Ex2, sv2, sk2, Fsv2, Fsc2, Vsv2⟩ := hQ2
  have Sf3 := CHr.safe Hc2 Er.lt Sf0_a0r
  have O_2 := O0.keep Kp2 (allS gr all0)
  have K_2 := (Keep.refl h0 [a0r]).trans Kp2 (allS (P := fun x => x ∈ _ ∨ _) (Or.inl (List.mem_of_getElem? (i := 0) rfl)) all0)
  have N2 := Fr.app N0 Nq2
  refine GoesH.via (B := T2.setTop (mkF m 9 #[.val (.ref a0r), .val (.ref ca)] [])) st2 ?_
  exact GoesH.retV X2 hS2 (Nat.le_refl _) hZ2 (own_EW hw) (by rw [show s.heap = h0 from hh]; exact CHc2) hx rfl Bd.returns hlk (hb hby d2_9) (by decide) (by decide) (⟨rfl, N2, K_2, Ex2, sv2, sk2, Fsv2, Fsc2, Vsv2⟩)
theorem d19_0 : decode jdk_52_method_21_code 0 = .ok (.iconst 0, 1) := by decide +kernel
theorem d19_1 : decode jdk_52_method_21_code 1 = .ok (.istore 5, 2) := by decide +kernel
theorem d19_3 : decode jdk_52_method_21_code 3 = .ok (.iload 5, 2) := by decide +kernel
theorem d19_5 : decode jdk_52_method_21_code 5 = .ok (.iload 4, 2) := by decide +kernel
theorem d19_7 : decode jdk_52_method_21_code 7 = .ok (.if_icmp .ge 37, 3) := by decide +kernel
theorem d19_10 : decode jdk_52_method_21_code 10 = .ok (.aload_n 0, 1) := by decide +kernel
theorem d19_11 : decode jdk_52_method_21_code 11 = .ok (.iload_n 1, 1) := by decide +kernel
theorem d19_12 : decode jdk_52_method_21_code 12 = .ok (.caload, 1) := by decide +kernel
theorem d19_13 : decode jdk_52_method_21_code 13 = .ok (.istore 6, 2) := by decide +kernel
theorem d19_15 : decode jdk_52_method_21_code 15 = .ok (.iload 6, 2) := by decide +kernel
theorem d19_17 : decode jdk_52_method_21_code 17 = .ok (.sipush 255, 3) := by decide +kernel
theorem d19_20 : decode jdk_52_method_21_code 20 = .ok (.if_icmp .le 6, 3) := by decide +kernel
theorem d19_26 : decode jdk_52_method_21_code 26 = .ok (.aload_n 2, 1) := by decide +kernel
theorem d19_27 : decode jdk_52_method_21_code 27 = .ok (.iload_n 3, 1) := by decide +kernel
theorem d19_28 : decode jdk_52_method_21_code 28 = .ok (.iload 6, 2) := by decide +kernel
theorem d19_30 : decode jdk_52_method_21_code 30 = .ok (.i2b, 1) := by decide +kernel
theorem d19_31 : decode jdk_52_method_21_code 31 = .ok (.bastore, 1) := by decide +kernel
theorem d19_32 : decode jdk_52_method_21_code 32 = .ok (.iinc 1 1, 3) := by decide +kernel
theorem d19_35 : decode jdk_52_method_21_code 35 = .ok (.iinc 3 1, 3) := by decide +kernel
theorem d19_38 : decode jdk_52_method_21_code 38 = .ok (.iinc 5 1, 3) := by decide +kernel
theorem d19_41 : decode jdk_52_method_21_code 41 = .ok (.goto (-38), 3) := by decide +kernel
theorem d19_44 : decode jdk_52_method_21_code 44 = .ok (.iload 4, 2) := by decide +kernel
theorem d19_46 : decode jdk_52_method_21_code 46 = .ok (.ireturn, 1) := by decide +kernel
theorem pn_StringUTF16 : plainName "java/lang/StringUTF16" = true := by first | (simp [plainName, overriddenIn]; done) | decide +kernel
theorem ef_rmC5_1 (m : MethodId) (x0 : Addr) (x1 : Int32) (x2 : Addr) (x3 : Int32) (x4 : Int32) : entryFrame m #[(.ref x0), (.int x1), (.ref x2), (.int x3), (.int x4)] 7 = mkF m 0 #[.val (.ref x0), .val (.int x1), .val (.ref x2), .val (.int x3), .val (.int x4), .unset, .unset] [] := by first | (simp [entryFrame, mkF, argsToLocals, Value.category]; done) | rfl
def QC5_1 (Z : State) (ca : Addr) (kc : ClassId) (bb : Addr) (kb : ClassId) (ch0 : Int32) (h0 : Heap) (n0 : Nat) (v : Option Value) (h : Heap) (L : List Loc) : Prop := v = some (.int (1 : Int32)) ∧ Fr n0 L ∧ Keep h0 h [bb] ∧ Arv Z h bb kb .byte (1 : Int32) [.int (own_b ch0)] (.int (0 : Int32))
set_option maxRecDepth 65536 in
set_option maxHeartbeats 40000000 in
theorem rmC5_1 (l : Launch) (Z : State) (a0 : Array Value) (hw : ∀ d ∈ tables_1, d.before a0 Z = true) (ws : List Jvm.Cond) (ca : Addr) (kc : ClassId) (bb : Addr) (kb : ClassId) (ch0 : Int32) (h0 : Heap) (n0 : Nat) (O0 : Old Z n0 h0) (Vc : Arv Z h0 ca kc .char (1 : Int32) [.int ch0] (.int (0 : Int32))) (Vb : Arv Z h0 bb kb .byte (1 : Int32) [.int (0 : Int32)] (.int (0 : Int32))) (gb : n0 ≤ bb) (ncb : ca ≠ bb) (hk0 : own_ok ch0) :
    MetFree l (⟨"java/lang/StringUTF16", "compress", "([CI[BII)I"⟩ : MethodName) (head1 (Jvm.Cond.code (⟨"java/lang/StringUTF16", "compress", "([CI[BII)I"⟩ : MethodName) jdk_52_method_21_code 7 (some .int) :: ws) ({ frames := 0, cells := 0, slots := 0, locals := 0 } : Room)) (fun a U => a = #[(.ref ca), (.int 0), (.ref bb), (.int 0), (.int 1)] ∧ Z.Warmed39 U.vm ∧ U.heap = h0) (fun _ _ _ _ _ => True) (fun _ U o U' => ∃ v L, o = .returned v ∧ QC5_1 Z ca kc bb kb ch0 h0 n0 v U'.heap L ∧ FrameEnd U o U' L ({ frames := 0, cells := 0, slots := 0, locals := 0 } : Room).cells ({ frames := 0, cells := 0, slots := 0, locals := 0 } : Room).slots) := by
  refine MetFree.of_bodySF (plainFor_of_name pn_StringUTF16) hisR ?_
  intro p e s m args below meth c s₁ Bd hml0 hP hK
  obtain ⟨rfl, hZ, hh⟩ := hP
  have hx := Bd.exec
  have hby := Bd.bytes
  have hlk : meth.locks = false := BodyLoose.notSynchronized Bd
  have hml : c.maxLocals = 7 := hml0
  have hown : s.vm.findClass "java/lang/StringUTF16" = some m.cls := findClass_of_methodNamed Bd.named
  have hnm := (name_of_methodNamed Bd.named Bd.method).1
  have X0 : Stand p l e ({ frames := 0, cells := 0, slots := 0, locals := 0 } : Room) s m #[(.ref ca), (.int 0), (.ref bb), (.int 0), (.int 1)] below meth c s₁ [] 0 0 := Stand.of_body Bd
  have e0 : s₁.heap = h0 := by rw [← hh, Bd.state]; rfl
  have N0 := Fr.nil n0
  show Goes p e below s (QC5_1 Z ca kc bb kb ch0 h0 n0) ({ frames := 0, cells := 0, slots := 0, locals := 0 } : Room).cells ({ frames := 0, cells := 0, slots := 0, locals := 0 } : Room).slots (s₁.setTop (entryFrame m #[(.ref ca), (.int 0), (.ref bb), (.int 0), (.int 1)] 7))
  refine Goes.enter (g' := (mkF m 0 #[.val (.ref ca), .val (.int 0), .val (.ref bb), .val (.int 0), .val (.int 1), .unset, .unset] [])) (ef_rmC5_1 m ca ((0 : Int32)) bb ((0 : Int32)) ((1 : Int32))) ?_
  refine Goes.step (fun _ k => pw_iconst X0.here hx (v := (0 : Int32)) (hb hby d19_0) rfl _ (pw_istore X0.here hx (l' := #[.val (.ref ca), .val (.int 0), .val (.ref bb), .val (.int 0), .val (.int 1), .val (.int 0), .unset]) (hb hby d19_1) rfl _ (pw_iload X0.here hx (hb hby d19_3) rfl _ (pw_iload X0.here hx (hb hby d19_5) rfl _ (pw_icmpNo X0.here hx (hb hby d19_7) (tlt (by decide)).2.1 _ (pw_aloadN X0.here hx (hb hby d19_10) rfl rfl _ k)))))) ?_
  refine Goes.step (fun _ k => pw_iloadN X0.here hx (hb hby d19_11) rfl _ k) ?_
  obtain ⟨c1, Ar1, -, Sz1, Nn1, Hs1, -⟩ := id Vc
  have hin1 : ¬ ((0 : Int32) < 0 ∨ c1.slots.size ≤ ((0 : Int32)).toNatClampNeg) := inb_of Sz1 ⟨by decide, by decide⟩
  refine Goes.step (B := s₁.setTop (mkF m 13 #[.val (.ref ca), .val (.int 0), .val (.ref bb), .val (.int 0), .val (.int 1), .val (.int 0), .unset] [(.int ch0)])) (X0.caload hx (j := (0 : Int32)) (v := (.int ch0)) (by rw [e0]; exact Ar1.1) (State.isArrayOf_alike hZ.alike Ar1.2.1) Ar1.2.2 hin1 (Has.at Hs1 hin1 rfl) (g := (mkF m 12 #[.val (.ref ca), .val (.int 0), .val (.ref bb), .val (.int 0), .val (.int 1), .val (.int 0), .unset] [(.int 0), (.ref ca)])) rfl rfl (hb hby d19_12)) ?_
  refine Goes.step (fun _ k => pw_istore X0.here hx (l' := #[.val (.ref ca), .val (.int 0), .val (.ref bb), .val (.int 0), .val (.int 1), .val (.int 0), .val (.int ch0)]) (hb hby d19_13) rfl _ (pw_iload X0.here hx (hb hby d19_15) rfl _ (pw_sipush X0.here hx (v := (255 : Int32)) (hb hby d19_17) rfl _ (pw_icmpYes X0.here hx (pc' := 26) (hb hby d19_20) (flt (own_le hk0)).2.2.2 (by decide) (by decide) _ (pw_aloadN X0.here hx (hb hby d19_26) rfl rfl _ (pw_iloadN X0.here hx (hb hby d19_27) rfl _ k)))))) ?_
  refine Goes.step (fun _ k => pw_iload X0.here hx (hb hby d19_28) rfl _ k) ?_
  refine Goes.step (B := s₁.setTop (mkF m 31 #[.val (.ref ca), .val (.int 0), .val (.ref bb), .val (.int 0), .val (.int 1), .val (.int 0), .val (.int ch0)] [(.int (ch0.toInt8.toInt32)), (.int 0), (.ref bb)])) (fun _ k => XS.i2b X0.here hx rfl (hb hby d19_30) rfl k) ?_
  obtain ⟨c2, Ar2, q2, Sz2, Nn2, Hs2, Gs2⟩ := id Vb
  have hin2 : ¬ ((0 : Int32) < 0 ∨ c2.slots.size ≤ ((0 : Int32)).toNatClampNeg) := inb_of Sz2 ⟨by decide, by decide⟩
  obtain ⟨T2, h2, X2, e2, W2, st2⟩ := stB X0 hx hZ e0 Ar2 (j := (0 : Int32)) hin2 (g := (mkF m 31 #[.val (.ref ca), .val (.int 0), .val (.ref bb), .val (.int 0), .val (.int 1), .val (.int 0), .val (.int ch0)] [(.int (ch0.toInt8.toInt32)), (.int 0), (.ref bb)])) rfl rfl (hb hby d19_31)
  have V2 : Arv Z h2 bb kb .byte (1 : Int32) [(.int (nar .byte (ch0.toInt8.toInt32)))] (.int 0) := Arv.set Ar2 q2 Sz2 Nn2 Hs2 Gs2 (fits_nar_byte _) W2 0 rfl (Nat.le_of_ble_eq_true rfl)
  have N2 := Fr.snoc X2 N0 gb
  have O_2 := O0.wr W2 gb
  have K_2 := (Keep.refl h0 [bb]).wr W2 (Or.inl (List.mem_of_getElem? (i := 0) rfl))
  refine Goes.step (B := T2.setTop (mkF m 32 #[.val (.ref ca), .val (.int 0), .val (.ref bb), .val (.int 0), .val (.int 1), .val (.int 0), .val (.int ch0)] [])) st2 ?_
  refine Goes.step (fun _ k => pw_iinc X2.here hx (l' := #[.val (.ref ca), .val (.int 1), .val (.ref bb), .val (.int 0), .val (.int 1), .val (.int 0), .val (.int ch0)]) (hb hby d19_32) rfl rfl _ (pw_iinc X2.here hx (l' := #[.val (.ref ca), .val (.int 1), .val (.ref bb), .val (.int 1), .val (.int 1), .val (.int 0), .val (.int ch0)]) (hb hby d19_35) rfl rfl _ (pw_iinc X2.here hx (l' := #[.val (.ref ca), .val (.int 1), .val (.ref bb), .val (.int 1), .val (.int 1), .val (.int 1), .val (.int ch0)]) (hb hby d19_38) rfl rfl _ (pw_goto X2.here hx (pc' := 3) (hb hby d19_41) (by decide) (by decide) _ (pw_iload X2.here hx (hb hby d19_3) rfl _ (pw_iload X2.here hx (hb hby d19_5) rfl _ k)))))) ?_
  refine Goes.step (fun _ k => pw_icmpYes X2.here hx (pc' := 44) (hb hby d19_7) (flt (by decide)).2.1 (by decide) (by decide) _ (pw_iload X2.here hx (hb hby d19_44) rfl _ k)) ?_
  exact Goes.retI X2 hx e2 Bd.returns hlk (hb hby d19_46) (by decide) (by decide) (⟨rfl, N2, K_2, V2⟩)
theorem d18_0 : decode jdk_52_method_16_code 0 = .ok (.iload_n 2, 1) := by decide +kernel
theorem d18_1 : decode jdk_52_method_16_code 1 = .ok (.newarray .byte, 2) := by decide +kernel
theorem d18_3 : decode jdk_52_method_16_code 3 = .ok (.astore_n 3, 1) := by decide +kernel
theorem d18_4 : decode jdk_52_method_16_code 4 = .ok (.aload_n 0, 1) := by decide +kernel
theorem d18_5 : decode jdk_52_method_16_code 5 = .ok (.iload_n 1, 1) := by decide +kernel
theorem d18_6 : decode jdk_52_method_16_code 6 = .ok (.aload_n 3, 1) := by decide +kernel
theorem d18_7 : decode jdk_52_method_16_code 7 = .ok (.iconst 0, 1) := by decide +kernel
theorem d18_8 : decode jdk_52_method_16_code 8 = .ok (.iload_n 2, 1) := by decide +kernel
theorem d18_9 : decode jdk_52_method_16_code 9 = .ok (.invokestatic 115, 3) := by decide +kernel
theorem own_w87 {Z : State} {a0 : Array Value} (hw : ∀ d ∈ tables_1, d.before a0 Z = true) : (Jvm.Cond.methodLink "java/lang/StringUTF16" (115 : Nat) ({ cls := "java/lang/StringUTF16", name := "compress", desc := "([CI[BII)I" } : Jvm.MethodName)).before a0 Z = true := hw _ (List.mem_of_getElem? (i := 87) rfl)
theorem own_w89 {Z : State} {a0 : Array Value} (hw : ∀ d ∈ tables_1, d.before a0 Z = true) : (Jvm.Cond.code ({ cls := "java/lang/StringUTF16", name := "compress", desc := "([CI[BII)I" } : Jvm.MethodName) jdk_52_method_21_code (7 : Nat) (Option.some Jvm.ClassFile.FieldType.int)).before a0 Z = true := hw _ (List.mem_of_getElem? (i := 89) rfl)
theorem own_w85 {Z : State} {a0 : Array Value} (hw : ∀ d ∈ tables_1, d.before a0 Z = true) : (Jvm.Cond.initialized "java/lang/StringUTF16").before a0 Z = true := hw _ (List.mem_of_getElem? (i := 85) rfl)
theorem pd_1 : parseMethodDescriptor "([CI[BII)I" = some ⟨[(.array .char), .int, (.array .byte), .int, .int], some .int⟩ := by decide +kernel
theorem own_w88 {Z : State} {a0 : Array Value} (hw : ∀ d ∈ tables_1, d.before a0 Z = true) : (Jvm.Cond.static ({ cls := "java/lang/StringUTF16", name := "compress", desc := "([CI[BII)I" } : Jvm.MethodName)).before a0 Z = true := hw _ (List.mem_of_getElem? (i := 88) rfl)
theorem d18_12 : decode jdk_52_method_16_code 12 = .ok (.istore 4, 2) := by decide +kernel
theorem d18_14 : decode jdk_52_method_16_code 14 = .ok (.iload 4, 2) := by decide +kernel
theorem d18_16 : decode jdk_52_method_16_code 16 = .ok (.iload_n 2, 1) := by decide +kernel
theorem d18_17 : decode jdk_52_method_16_code 17 = .ok (.if_icmp .eq 40, 3) := by decide +kernel
theorem d18_57 : decode jdk_52_method_16_code 57 = .ok (.aload_n 3, 1) := by decide +kernel
theorem d18_58 : decode jdk_52_method_16_code 58 = .ok (.areturn, 1) := by decide +kernel
theorem ef_rmC3_1 (m : MethodId) (x0 : Addr) (x1 : Int32) (x2 : Int32) : entryFrame m #[(.ref x0), (.int x1), (.int x2)] 6 = mkF m 0 #[.val (.ref x0), .val (.int x1), .val (.int x2), .unset, .unset, .unset] [] := by first | (simp [entryFrame, mkF, argsToLocals, Value.category]; done) | rfl
def QC3_1 (Z : State) (ca : Addr) (kc : ClassId) (ch0 : Int32) (h0 : Heap) (n0 : Nat) (v : Option Value) (h : Heap) (L : List Loc) : Prop := ∃ (b : Addr) (k : ClassId), v = some (.ref b) ∧ Fr n0 L ∧ Keep h0 h [] ∧ n0 ≤ b ∧ h0.size ≤ b ∧ Arv Z h b k .byte (1 : Int32) [(.int (own_b ch0))] (.int 0)
set_option maxRecDepth 65536 in
set_option maxHeartbeats 40000000 in
theorem rmC3_1 (l : Launch) (Z : State) (a0 : Array Value) (hw : ∀ d ∈ tables_1, d.before a0 Z = true) (ws : List Jvm.Cond) (ca : Addr) (kc : ClassId) (ch0 : Int32) (h0 : Heap) (n0 : Nat) (O0 : Old Z n0 h0) (Vc : Arv Z h0 ca kc .char (1 : Int32) [.int ch0] (.int (0 : Int32))) (hk0 : own_ok ch0) :
    MetFree l (⟨"java/lang/StringUTF16", "compress", "([CII)[B"⟩ : MethodName) (head1 (Jvm.Cond.code (⟨"java/lang/StringUTF16", "compress", "([CII)[B"⟩ : MethodName) jdk_52_method_16_code 6 (some (.array .byte)) :: ws) ({ frames := 1, cells := 1, slots := 1, locals := 18 } : Room)) (fun a U => a = #[(.ref ca), (.int 0), (.int 1)] ∧ Z.Warmed39 U.vm ∧ U.heap = h0) (fun _ _ _ _ _ => True) (fun _ U o U' => ∃ v L, o = .returned v ∧ QC3_1 Z ca kc ch0 h0 n0 v U'.heap L ∧ FrameEnd U o U' L ({ frames := 1, cells := 1, slots := 1, locals := 18 } : Room).cells ({ frames := 1, cells := 1, slots := 1, locals := 18 } : Room).slots) := by
  refine MetFree.of_bodySF (plainFor_of_name pn_StringUTF16) hisR ?_
  intro p e s m args below meth c s₁ Bd hml0 hP hK
  obtain ⟨rfl, hZ, hh⟩ := hP
  have hx := Bd.exec
  have hby := Bd.bytes
  have hlk : meth.locks = false := BodyLoose.notSynchronized Bd
  have hml : c.maxLocals = 6 := hml0
  have hown : s.vm.findClass "java/lang/StringUTF16" = some m.cls := findClass_of_methodNamed Bd.named
  have hnm := (name_of_methodNamed Bd.named Bd.method).1
  have X0 : Stand p l e ({ frames := 1, cells := 1, slots := 1, locals := 18 } : Room) s m #[(.ref ca), (.int 0), (.int 1)] below meth c s₁ [] 0 0 := Stand.of_body Bd
  have e0 : s₁.heap = h0 := by rw [← hh, Bd.state]; rfl
  have N0 := Fr.nil n0
  show Goes p e below s (QC3_1 Z ca kc ch0 h0 n0) ({ frames := 1, cells := 1, slots := 1, locals := 18 } : Room).cells ({ frames := 1, cells := 1, slots := 1, locals := 18 } : Room).slots (s₁.setTop (entryFrame m #[(.ref ca), (.int 0), (.int 1)] 6))
  refine Goes.enter (g' := (mkF m 0 #[.val (.ref ca), .val (.int 0), .val (.int 1), .unset, .unset, .unset] [])) (ef_rmC3_1 m ca ((0 : Int32)) ((1 : Int32))) ?_
  refine Goes.step (fun _ k => pw_iloadN X0.here hx (hb hby d18_0) rfl _ k) ?_
  obtain ⟨T1, h1, k1, X1, e1, E1, A1, st1⟩ := newP (aty := .byte) X0 hx hZ (own_w20 hw) e0 (g := (mkF m 1 #[.val (.ref ca), .val (.int 0), .val (.int 1), .unset, .unset, .unset] [(.int 1)])) rfl (hb hby d18_1) rfl (by decide) (cap := 1) (by decide) (by decide) (by decide) (by decide)
  obtain ⟨b1, g1⟩ : ∃ z, z = h0.size := ⟨_, rfl⟩
  rw [← g1] at A1 st1
  have ne_ca_b1 : ca ≠ b1 := Nat.ne_of_lt (Nat.lt_of_lt_of_le Vc.lt (Nat.le_of_eq g1.symm))
  have g_b1 : n0 ≤ b1 := Nat.le_trans (own_z O0) (Nat.le_of_eq g1.symm)
  have O_1 := O0.ext E1
  have sz_b1 : h0.size ≤ b1 := Nat.le_trans (Keep.refl h0 []).1 (Nat.le_of_eq g1.symm)
  have K_1 := (Keep.refl h0 []).ext E1
  have V_b1 : Arv Z h1 b1 k1 .byte (1 : Int32) [(.int 0)] (.int 0) := (Arv.new A1 (by decide)).pad (pad_rep [] (.int 0) 1)
  refine Goes.step (B := T1.setTop (mkF m 3 #[.val (.ref ca), .val (.int 0), .val (.int 1), .unset, .unset, .unset] [(.ref b1)])) st1 ?_
  refine Goes.step (fun _ k => pw_astoreN X1.here hx (l' := #[.val (.ref ca), .val (.int 0), .val (.int 1), .val (.ref b1), .unset, .unset]) (hb hby d18_3) rfl rfl _ (pw_aloadN X1.here hx (hb hby d18_4) rfl rfl _ (pw_iloadN X1.here hx (hb hby d18_5) rfl _ (pw_aloadN X1.here hx (hb hby d18_6) rfl rfl _ (pw_iconst X1.here hx (v := (0 : Int32)) (hb hby d18_7) rfl _ (pw_iloadN X1.here hx (hb hby d18_8) rfl _ k)))))) ?_
  have f3 := (Vc.ext E1)
  obtain ⟨_, _, ⟨T2, L2, k2, n2⟩, -, X2, ⟨Lc2, hQ2, l2, y2, z2⟩, st2⟩ := Jvm.LawKit.callS X1 hx (y := (⟨"java/lang/StringUTF16", "compress", "([CI[BII)I"⟩ : MethodName)) hown (mvT hZ (own_w87 hw)) (mvT hZ (own_w88 hw)) (mvT hZ (own_w85 hw)) (mvT hZ (own_w89 hw)) (by decide) (backOf (W := 0) (rmC5_1 l Z a0 hw [] ca kc b1 k1 ch0 h1 n0 O_1 f3 V_b1 g_b1 ne_ca_b1 hk0) hZ (own_w89 hw) (own_w85 hw) (by decide) (by decide)) (g := (mkF m 9 #[.val (.ref ca), .val (.int 0), .val (.int 1), .val (.ref b1), .unset, .unset] [(.int 1), (.int 0), (.ref b1), (.int 0), (.ref ca)])) rfl (by rw [hml]; rfl) (argsL := [(.ref ca), (.int 0), (.ref b1), (.int 0), (.int 1)]) (rest := []) (lenOf pd_1 rfl) rfl (by show 2 * 0 + _ ≤ _; exact Nat.le_of_eq rfl) (hb hby d18_9) (fun _ _ => ⟨rfl, e1, (by decide : 1 + 0 ≤ _), (by decide : 1 + 0 ≤ _)⟩)
  dsimp only [Pt.U, Pt.locs, Pt.cells, Pt.slots] at X2 l2 y2 z2 st2 hQ2
  subst l2 y2 z2
  obtain ⟨rfl, Nq2, Kp2, Vq2⟩ := hQ2
  have O_2 := O_1.keep Kp2 (allS g_b1 all0)
  have K_2 := K_1.trans Kp2 (allS (P := fun x => x ∈ _ ∨ _) (Or.inr sz_b1) all0)
  have N2 := Fr.app N0 Nq2
  refine Goes.step (B := T2.setTop (mkF m 12 #[.val (.ref ca), .val (.int 0), .val (.int 1), .val (.ref b1), .unset, .unset] [(.int 1)])) st2 ?_
  refine Goes.step (fun _ k => pw_istore X2.here hx (l' := #[.val (.ref ca), .val (.int 0), .val (.int 1), .val (.ref b1), .val (.int 1), .unset]) (hb hby d18_12) rfl _ (pw_iload X2.here hx (hb hby d18_14) rfl _ (pw_iloadN X2.here hx (hb hby d18_16) rfl _ (pw_icmpYes X2.here hx (pc' := 57) (hb hby d18_17) (teq (by decide)).1 (by decide) (by decide) _ (pw_aloadN X2.here hx (hb hby d18_57) rfl rfl _ k))))) ?_
  exact Goes.retA X2 hx rfl Bd.returns rfl rfl hlk (hb hby d18_58) (by decide) (by decide) (⟨b1, k1, rfl, N2, K_2, g_b1, sz_b1, Vq2⟩)
theorem d20_0 : decode jdk_52_method_15_code 0 = .ok (.iload_n 1, 1) := by decide +kernel
theorem d20_1 : decode jdk_52_method_15_code 1 = .ok (.aload_n 0, 1) := by decide +kernel
theorem d20_2 : decode jdk_52_method_15_code 2 = .ok (.arraylength, 1) := by decide +kernel
theorem d20_3 : decode jdk_52_method_15_code 3 = .ok (.isub, 1) := by decide +kernel
theorem d20_4 : decode jdk_52_method_15_code 4 = .ok (.bipush 31, 2) := by decide +kernel
theorem d20_6 : decode jdk_52_method_15_code 6 = .ok (.iushr, 1) := by decide +kernel
theorem d20_7 : decode jdk_52_method_15_code 7 = .ok (.i2b, 1) := by decide +kernel
theorem d20_8 : decode jdk_52_method_15_code 8 = .ok (.ireturn, 1) := by decide +kernel
theorem ef_rmCF_1 (m : MethodId) (x0 : Addr) (x1 : Int32) : entryFrame m #[(.ref x0), (.int x1)] 2 = mkF m 0 #[.val (.ref x0), .val (.int x1)] [] := by first | (simp [entryFrame, mkF, argsToLocals, Value.category]; done) | rfl
def QCF_1 (Z : State) (bb : Addr) (kb : ClassId) (ls : List Value) (h0 : Heap) (n0 : Nat) (v : Option Value) (h : Heap) (L : List Loc) : Prop := v = some (.int 0) ∧ Fr n0 L ∧ h = h0
set_option maxRecDepth 65536 in
set_option maxHeartbeats 40000000 in
theorem rmCF_1 (l : Launch) (Z : State) (a0 : Array Value) (hw : ∀ d ∈ tables_1, d.before a0 Z = true) (ws : List Jvm.Cond) (bb : Addr) (kb : ClassId) (ls : List Value) (h0 : Heap) (n0 : Nat) (O0 : Old Z n0 h0) (Vb : Arv Z h0 bb kb .byte (1 : Int32) ls (.int (0 : Int32))) :
    MetFree l (⟨"java/lang/StringUTF16", "coderFromArrayLen", "([BI)B"⟩ : MethodName) (head1 (Jvm.Cond.code (⟨"java/lang/StringUTF16", "coderFromArrayLen", "([BI)B"⟩ : MethodName) jdk_52_method_15_code 2 (some .byte) :: ws) ({ frames := 0, cells := 0, slots := 0, locals := 0 } : Room)) (fun a U => a = #[(.ref bb), (.int 1)] ∧ Z.Warmed39 U.vm ∧ U.heap = h0) (fun _ _ _ _ _ => True) (fun _ U o U' => ∃ v L, o = .returned v ∧ QCF_1 Z bb kb ls h0 n0 v U'.heap L ∧ FrameEnd U o U' L ({ frames := 0, cells := 0, slots := 0, locals := 0 } : Room).cells ({ frames := 0, cells := 0, slots := 0, locals := 0 } : Room).slots) := by
  refine MetFree.of_bodySF (plainFor_of_name pn_StringUTF16) hisR ?_
  intro p e s m args below meth c s₁ Bd hml0 hP hK
  obtain ⟨rfl, hZ, hh⟩ := hP
  have hx := Bd.exec
  have hby := Bd.bytes
  have hlk : meth.locks = false := BodyLoose.notSynchronized Bd
  have hml : c.maxLocals = 2 := hml0
  have hown : s.vm.findClass "java/lang/StringUTF16" = some m.cls := findClass_of_methodNamed Bd.named
  have hnm := (name_of_methodNamed Bd.named Bd.method).1
  have X0 : Stand p l e ({ frames := 0, cells := 0, slots := 0, locals := 0 } : Room) s m #[(.ref bb), (.int 1)] below meth c s₁ [] 0 0 := Stand.of_body Bd
  have e0 : s₁.heap = h0 := by rw [← hh, Bd.state]; rfl
  have N0 := Fr.nil n0
  show Goes p e below s (QCF_1 Z bb kb ls h0 n0) ({ frames := 0, cells := 0, slots := 0, locals := 0 } : Room).cells ({ frames := 0, cells := 0, slots := 0, locals := 0 } : Room).slots (s₁.setTop (entryFrame m #[(.ref bb), (.int 1)] 2))
  refine Goes.enter (g' := (mkF m 0 #[.val (.ref bb), .val (.int 1)] [])) (ef_rmCF_1 m bb ((1 : Int32))) ?_
  refine Goes.step (fun _ k => pw_iloadN X0.here hx (hb hby d20_0) rfl _ (pw_aloadN X0.here hx (hb hby d20_1) rfl rfl _ k)) ?_
  obtain ⟨c1, Ar1, -, Sz1, Nn1, -, -⟩ := id Vb
  have len1 := X0.arraylength hx (by rw [e0]; exact Ar1.1) (State.isArrayOf_alike hZ.alike Ar1.2.1) (g := (mkF m 2 #[.val (.ref bb), .val (.int 1)] [(.ref bb), (.int 1)])) rfl rfl (hb hby d20_2)
  rw [len_of Sz1 Nn1] at len1
  refine Goes.step (B := s₁.setTop (mkF m 3 #[.val (.ref bb), .val (.int 1)] [(.int 1), (.int 1)])) len1 ?_
  refine Goes.step (B := s₁.setTop (mkF m 4 #[.val (.ref bb), .val (.int 1)] [(.int 0)])) (fun _ k => XS.isub X0.here hx rfl (hb hby d20_3) rfl k) ?_
  refine Goes.step (fun _ k => pw_bipush X0.here hx (v := (31 : Int32)) (hb hby d20_4) rfl _ k) ?_
  refine Goes.step (B := s₁.setTop (mkF m 7 #[.val (.ref bb), .val (.int 1)] [(.int 0)])) (fun _ k => XS.iushr X0.here hx rfl (hb hby d20_6) rfl k) ?_
  refine Goes.step (B := s₁.setTop (mkF m 8 #[.val (.ref bb), .val (.int 1)] [(.int 0)])) (fun _ k => XS.i2b X0.here hx rfl (hb hby d20_7) rfl k) ?_
  exact Goes.retN X0 hx e0 (t := .byte) Bd.returns (by simp) hlk (hb hby d20_8) (by decide) (by decide) (⟨rfl, N0, rfl⟩)
theorem d3_27 : decode jdk_42_method_149_code 27 = .ok (.getstatic 38, 3) := by decide +kernel
theorem own_w46 {Z : State} {a0 : Array Value} (hw : ∀ d ∈ tables_1, d.before a0 Z = true) : (Jvm.Cond.fieldLink "java/lang/String" (38 : Nat) "java/lang/String" "COMPACT_STRINGS" "Z").before a0 Z = true := hw _ (List.mem_of_getElem? (i := 46) rfl)
theorem d3_30 : decode jdk_42_method_149_code 30 = .ok (.ifCond .eq 28, 3) := by decide +kernel
theorem d3_33 : decode jdk_42_method_149_code 33 = .ok (.aload_n 1, 1) := by decide +kernel
theorem d3_34 : decode jdk_42_method_149_code 34 = .ok (.iload_n 2, 1) := by decide +kernel
theorem d3_35 : decode jdk_42_method_149_code 35 = .ok (.iload_n 3, 1) := by decide +kernel
theorem d3_36 : decode jdk_42_method_149_code 36 = .ok (.invokestatic 177, 3) := by decide +kernel
theorem own_w83 {Z : State} {a0 : Array Value} (hw : ∀ d ∈ tables_1, d.before a0 Z = true) : (Jvm.Cond.methodLink "java/lang/String" (177 : Nat) ({ cls := "java/lang/StringUTF16", name := "compress", desc := "([CII)[B" } : Jvm.MethodName)).before a0 Z = true := hw _ (List.mem_of_getElem? (i := 83) rfl)
theorem own_w86 {Z : State} {a0 : Array Value} (hw : ∀ d ∈ tables_1, d.before a0 Z = true) : (Jvm.Cond.code ({ cls := "java/lang/StringUTF16", name := "compress", desc := "([CII)[B" } : Jvm.MethodName) jdk_52_method_16_code (6 : Nat) (Option.some (Jvm.ClassFile.FieldType.array Jvm.ClassFile.FieldType.byte))).before a0 Z = true := hw _ (List.mem_of_getElem? (i := 86) rfl)
theorem pd_2 : parseMethodDescriptor "([CII)[B" = some ⟨[(.array .char), .int, .int], some (.array .byte)⟩ := by decide +kernel
theorem own_w84 {Z : State} {a0 : Array Value} (hw : ∀ d ∈ tables_1, d.before a0 Z = true) : (Jvm.Cond.static ({ cls := "java/lang/StringUTF16", name := "compress", desc := "([CII)[B" } : Jvm.MethodName)).before a0 Z = true := hw _ (List.mem_of_getElem? (i := 84) rfl)
theorem d3_39 : decode jdk_42_method_149_code 39 = .ok (.astore 5, 2) := by decide +kernel
theorem d3_41 : decode jdk_42_method_149_code 41 = .ok (.aload_n 0, 1) := by decide +kernel
theorem d3_42 : decode jdk_42_method_149_code 42 = .ok (.aload 5, 2) := by decide +kernel
theorem d3_44 : decode jdk_42_method_149_code 44 = .ok (.iload_n 3, 1) := by decide +kernel
theorem d3_45 : decode jdk_42_method_149_code 45 = .ok (.invokestatic 47, 3) := by decide +kernel
theorem own_w90 {Z : State} {a0 : Array Value} (hw : ∀ d ∈ tables_1, d.before a0 Z = true) : (Jvm.Cond.methodLink "java/lang/String" (47 : Nat) ({ cls := "java/lang/StringUTF16", name := "coderFromArrayLen", desc := "([BI)B" } : Jvm.MethodName)).before a0 Z = true := hw _ (List.mem_of_getElem? (i := 90) rfl)
theorem own_w92 {Z : State} {a0 : Array Value} (hw : ∀ d ∈ tables_1, d.before a0 Z = true) : (Jvm.Cond.code ({ cls := "java/lang/StringUTF16", name := "coderFromArrayLen", desc := "([BI)B" } : Jvm.MethodName) jdk_52_method_15_code (2 : Nat) (Option.some Jvm.ClassFile.FieldType.byte)).before a0 Z = true := hw _ (List.mem_of_getElem? (i := 92) rfl)
theorem pd_3 : parseMethodDescriptor "([BI)B" = some ⟨[(.array .byte), .int], some .byte⟩ := by decide +kernel
theorem own_w91 {Z : State} {a0 : Array Value} (hw : ∀ d ∈ tables_1, d.before a0 Z = true) : (Jvm.Cond.static ({ cls := "java/lang/StringUTF16", name := "coderFromArrayLen", desc := "([BI)B" } : Jvm.MethodName)).before a0 Z = true := hw _ (List.mem_of_getElem? (i := 91) rfl)
theorem d3_48 : decode jdk_42_method_149_code 48 = .ok (.putfield 15, 3) := by decide +kernel
theorem d3_51 : decode jdk_42_method_149_code 51 = .ok (.aload_n 0, 1) := by decide +kernel
theorem d3_52 : decode jdk_42_method_149_code 52 = .ok (.aload 5, 2) := by decide +kernel
theorem d3_54 : decode jdk_42_method_149_code 54 = .ok (.putfield 9, 3) := by decide +kernel
theorem d3_57 : decode jdk_42_method_149_code 57 = .ok (.return_, 1) := by decide +kernel
theorem ef_rmSJ_1 (m : MethodId) (x0 : Addr) (x1 : Addr) (x2 : Int32) (x3 : Int32) : entryFrame m #[(.ref x0), (.ref x1), (.int x2), (.int x3), .null] 6 = mkF m 0 #[.val (.ref x0), .val (.ref x1), .val (.int x2), .val (.int x3), .val .null, .unset] [] := by first | (simp [entryFrame, mkF, argsToLocals, Value.category]; done) | rfl
def QSJ_1 (Z : State) (a0r : Addr) (ca : Addr) (kc : ClassId) (cs : Int32) (ch0 : Int32) (h0 : Heap) (n0 : Nat) (v : Option Value) (h : Heap) (L : List Loc) : Prop := v = none ∧ Fr n0 L ∧ Keep h0 h [a0r] ∧ Exa Z h a0r "java/lang/String" ∧ ∃ (vb : Addr) (kv : ClassId), Fld Z h a0r "java/lang/String" "value" "[B" (.ref vb) ∧ Fld Z h a0r "java/lang/String" "coder" "B" (.int (0 : Int32)) ∧ Arv Z h vb kv .byte (1 : Int32) [.int (own_b ch0)] (.int (0 : Int32))
set_option maxRecDepth 65536 in
set_option maxHeartbeats 40000000 in
theorem rmSJ_1 (l : Launch) (Z : State) (a0 : Array Value) (hw : ∀ d ∈ tables_1, d.before a0 Z = true) (ws : List Jvm.Cond) (a0r : Addr) (ca : Addr) (kc : ClassId) (cs : Int32) (ch0 : Int32) (h0 : Heap) (n0 : Nat) (O0 : Old Z n0 h0) (Er : Exa Z h0 a0r "java/lang/String") (gr : n0 ≤ a0r) (Fr_value : Fld Z h0 a0r "java/lang/String" "value" "[B" .null) (Fr_coder : Fld Z h0 a0r "java/lang/String" "coder" "B" (.int (0 : Int32))) (Vc : Arv Z h0 ca kc .char (1 : Int32) [.int ch0] (.int (0 : Int32))) (Sc : Sta Z h0 "java/lang/String" "COMPACT_STRINGS" "Z" (.int cs)) (hcs : ¬ cs = (0 : Int32)) (hk0 : own_ok ch0) :
    MetFree l (⟨"java/lang/String", "<init>", "([CIILjava/lang/Void;)V"⟩ : MethodName) (head1 (Jvm.Cond.code (⟨"java/lang/String", "<init>", "([CIILjava/lang/Void;)V"⟩ : MethodName) jdk_42_method_149_code 6 none :: ws) ({ frames := 2, cells := 1, slots := 1, locals := 35 } : Room)) (fun a U => a = #[(.ref a0r), (.ref ca), (.int 0), (.int 1), .null] ∧ Z.Warmed39 U.vm ∧ U.heap = h0) (fun _ _ _ _ _ => True) (fun _ U o U' => ∃ v L, o = .returned v ∧ QSJ_1 Z a0r ca kc cs ch0 h0 n0 v U'.heap L ∧ FrameEnd U o U' L ({ frames := 2, cells := 1, slots := 1, locals := 35 } : Room).cells ({ frames := 2, cells := 1, slots := 1, locals := 35 } : Room).slots) := by
  refine MetFree.of_bodySF (plainFor_of_name pn_String) hisR ?_
  intro p e s m args below meth c s₁ Bd hml0 hP hK
  obtain ⟨rfl, hZ, hh⟩ := hP
  have hx := Bd.exec
  have hby := Bd.bytes
  have hlk : meth.locks = false := BodyLoose.notSynchronized Bd
  have hml : c.maxLocals = 6 := hml0
  have hown : s.vm.findClass "java/lang/String" = some m.cls := findClass_of_methodNamed Bd.named
  have hnm := (name_of_methodNamed Bd.named Bd.method).1
  have X0 : Stand p l e ({ frames := 2, cells := 1, slots := 1, locals := 35 } : Room) s m #[(.ref a0r), (.ref ca), (.int 0), (.int 1), .null] below meth c s₁ [] 0 0 := Stand.of_body Bd
  have e0 : s₁.heap = h0 := by rw [← hh, Bd.state]; rfl
  have N0 := Fr.nil n0
  show Goes p e below s (QSJ_1 Z a0r ca kc cs ch0 h0 n0) ({ frames := 2, cells := 1, slots := 1, locals := 35 } : Room).cells ({ frames := 2, cells := 1, slots := 1, locals := 35 } : Room).slots (s₁.setTop (entryFrame m #[(.ref a0r), (.ref ca), (.int 0), (.int 1), .null] 6))
  refine Goes.enter (g' := (mkF m 0 #[.val (.ref a0r), .val (.ref ca), .val (.int 0), .val (.int 1), .val .null, .unset] [])) (ef_rmSJ_1 m a0r ca ((0 : Int32)) ((1 : Int32))) ?_
  refine Goes.step (fun _ k => pw_aloadN X0.here hx (hb hby d3_0) rfl rfl _ k) ?_
  obtain ⟨T1, X1, e1, st1⟩ := initO X0 hx hZ hown (own_w16 hw) (own_w17 hw) (own_w18 hw) e0 (g := (mkF m 1 #[.val (.ref a0r), .val (.ref ca), .val (.int 0), .val (.int 1), .val .null, .unset] [(.ref a0r)])) rfl (by rw [hml]; rfl) rfl (hb hby d3_1) (by decide) (W := 0) (by show 2 * 0 + _ ≤ _; exact Nat.le_of_eq rfl) (by decide)
  refine Goes.step (B := T1.setTop (mkF m 4 #[.val (.ref a0r), .val (.ref ca), .val (.int 0), .val (.int 1), .val .null, .unset] [])) st1 ?_
  refine Goes.step (fun _ k => pw_iloadN X1.here hx (hb hby d3_4) rfl _ (pw_ifYes X1.here hx (pc' := 27) (hb hby d3_5) ((if0 _ _).trans (feq (by decide)).2) (by decide) (by decide) _ k)) ?_
  obtain ⟨T2, X2, e2, st2⟩ := getS2 X1 hx hZ hown (host := "") (Or.inl (own_w46 hw)) Via.refl e1 Sc (g := (mkF m 27 #[.val (.ref a0r), .val (.ref ca), .val (.int 0), .val (.int 1), .val .null, .unset] [])) rfl (hb hby d3_27)
  refine Goes.step (B := T2.setTop (mkF m 30 #[.val (.ref a0r), .val (.ref ca), .val (.int 0), .val (.int 1), .val .null, .unset] [(.int cs)])) st2 ?_
  refine Goes.step (fun _ k => pw_ifNo X2.here hx (hb hby d3_30) ((if0 _ _).trans (feq hcs).1) _ (pw_aloadN X2.here hx (hb hby d3_33) rfl rfl _ (pw_iloadN X2.here hx (hb hby d3_34) rfl _ (pw_iloadN X2.here hx (hb hby d3_35) rfl _ k)))) ?_
  have lt_a0r_3 := Er.lt
  have lt_ca_3 := Vc.lt
  obtain ⟨_, _, ⟨T3, L3, k3, n3⟩, -, X3, ⟨Lc3, hQ3, l3, y3, z3⟩, st3⟩ := Jvm.LawKit.callS X2 hx (y := (⟨"java/lang/StringUTF16", "compress", "([CII)[B"⟩ : MethodName)) hown (mvT hZ (own_w83 hw)) (mvT hZ (own_w84 hw)) (mvT hZ (own_w85 hw)) (mvT hZ (own_w86 hw)) (by decide) (backOf (W := 0) (rmC3_1 l Z a0 hw [] ca kc ch0 h0 n0 O0 Vc hk0) hZ (own_w86 hw) (own_w85 hw) (by decide) (by decide)) (g := (mkF m 36 #[.val (.ref a0r), .val (.ref ca), .val (.int 0), .val (.int 1), .val .null, .unset] [(.int 1), (.int 0), (.ref ca)])) rfl (by rw [hml]; rfl) (argsL := [(.ref ca), (.int 0), (.int 1)]) (rest := []) (lenOf pd_2 rfl) rfl (by show 2 * 0 + _ ≤ _; exact Nat.le_of_eq rfl) (hb hby d3_36) (fun _ _ => ⟨rfl, e2, (by decide : 0 + 1 ≤ _), (by decide : 0 + 1 ≤ _)⟩)
  dsimp only [Pt.U, Pt.locs, Pt.cells, Pt.slots] at X3 l3 y3 z3 st3 hQ3
  subst l3 y3 z3
  obtain ⟨fb3, fk3, rfl, Nq3, Kp3, gb3, sb3, Vb3⟩ := hQ3
  have ne_a0r_fb3 : a0r ≠ fb3 := Nat.ne_of_lt (Nat.lt_of_lt_of_le lt_a0r_3 sb3)
  have ne_ca_fb3 : ca ≠ fb3 := Nat.ne_of_lt (Nat.lt_of_lt_of_le lt_ca_3 sb3)
  have O_3 := O0.keep Kp3 all0
  have K_3 := (Keep.refl h0 [a0r]).trans Kp3 all0
  have N3 := Fr.app N0 Nq3
  refine Goes.step (B := T3.setTop (mkF m 39 #[.val (.ref a0r), .val (.ref ca), .val (.int 0), .val (.int 1), .val .null, .unset] [(.ref fb3)])) st3 ?_
  refine Goes.step (fun _ k => pw_astore X3.here hx (l' := #[.val (.ref a0r), .val (.ref ca), .val (.int 0), .val (.int 1), .val .null, .val (.ref fb3)]) (hb hby d3_39) rfl rfl _ (pw_aloadN X3.here hx (hb hby d3_41) rfl rfl _ (pw_aload X3.here hx (hb hby d3_42) rfl rfl _ (pw_iloadN X3.here hx (hb hby d3_44) rfl _ k)))) ?_
  obtain ⟨_, _, ⟨T4, L4, k4, n4⟩, -, X4, ⟨Lc4, hQ4, l4, y4, z4⟩, st4⟩ := Jvm.LawKit.callS X3 hx (y := (⟨"java/lang/StringUTF16", "coderFromArrayLen", "([BI)B"⟩ : MethodName)) hown (mvT hZ (own_w90 hw)) (mvT hZ (own_w91 hw)) (mvT hZ (own_w85 hw)) (mvT hZ (own_w92 hw)) (by decide) (backOf (W := 1) (rmCF_1 l Z a0 hw [] fb3 fk3 [(.int (own_b ch0))] T3.heap n0 O_3 Vb3) hZ (own_w92 hw) (own_w85 hw) (by decide) (by decide)) (g := (mkF m 45 #[.val (.ref a0r), .val (.ref ca), .val (.int 0), .val (.int 1), .val .null, .val (.ref fb3)] [(.int 1), (.ref fb3), (.ref a0r)])) rfl (by rw [hml]; rfl) (argsL := [(.ref fb3), (.int 1)]) (rest := [(.ref a0r)]) (lenOf pd_3 rfl) rfl (by show 2 * 0 + _ ≤ _; exact Nat.le_of_eq rfl) (hb hby d3_45) (fun _ _ => ⟨rfl, rfl, (by decide : 1 + 0 ≤ _), (by decide : 1 + 0 ≤ _)⟩)
  dsimp only [Pt.U, Pt.locs, Pt.cells, Pt.slots] at X4 l4 y4 z4 st4 hQ4
  subst l4 y4 z4
  obtain ⟨rfl, Nq4, eh4⟩ := hQ4
  have N4 := Fr.app N3 Nq4
  refine Goes.step (B := T4.setTop (mkF m 48 #[.val (.ref a0r), .val (.ref ca), .val (.int 0), .val (.int 1), .val .null, .val (.ref fb3)] [(.int 0), (.ref a0r)])) st4 ?_
  have f5 := (Er.keep Kp3)
  have f6 := (Fr_coder.keep Kp3 nin0)
  obtain ⟨T7, h7, X7, e7, W7, st7⟩ := putFN X4 hx hZ hown (own_w26 hw) Via.refl eh4 f6 f5 (Or.inr ⟨(own_w22 hw), rfl, hnm⟩) (own_w7 hw) (ty := .byte) (v' := (.int 0)) (by decide) rfl (by decide) (g := (mkF m 48 #[.val (.ref a0r), .val (.ref ca), .val (.int 0), .val (.int 1), .val .null, .val (.ref fb3)] [(.int 0), (.ref a0r)])) rfl rfl (hb hby d3_48)
  have Fw7 := f6.same W7
  have N7 := Fr.snoc X7 N4 gr
  have O_7 := O_3.wr W7 gr
  have K_7 := K_3.wr W7 (Or.inl (List.mem_of_getElem? (i := 0) rfl))
  refine Goes.step (B := T7.setTop (mkF m 51 #[.val (.ref a0r), .val (.ref ca), .val (.int 0), .val (.int 1), .val .null, .val (.ref fb3)] [])) st7 ?_
  refine Goes.step (fun _ k => pw_aloadN X7.here hx (hb hby d3_51) rfl rfl _ (pw_aload X7.here hx (hb hby d3_52) rfl rfl _ k)) ?_
  have f8 := (f5.wr W7)
  have f9 := ((Fr_value.keep Kp3 nin0).other W7 (Or.inr (slot_ne (Or.inr (own_w21 hw)) (Or.inr (own_w22 hw)) (by decide) (t := (.array .byte)) (t' := .byte) (by decide) (by decide))))
  obtain ⟨T10, h10, X10, e10, W10, st10⟩ := putF X7 hx hZ hown (host := "") (Or.inl (own_w25 hw)) Via.refl e7 f9 f8 (Or.inr ⟨(own_w21 hw), rfl, hnm⟩) (own_w7 hw) (ty := (.array .byte)) (by decide) rfl rfl (g := (mkF m 54 #[.val (.ref a0r), .val (.ref ca), .val (.int 0), .val (.int 1), .val .null, .val (.ref fb3)] [(.ref fb3), (.ref a0r)])) rfl rfl (hb hby d3_54)
  have Fw10 := f9.same W10
  have N10 := Fr.snoc X10 N7 gr
  have O_10 := O_7.wr W10 gr
  have K_10 := K_7.wr W10 (Or.inl (List.mem_of_getElem? (i := 0) rfl))
  refine Goes.step (B := T10.setTop (mkF m 57 #[.val (.ref a0r), .val (.ref ca), .val (.int 0), .val (.int 1), .val .null, .val (.ref fb3)] [])) st10 ?_
  have f11 := (f8.wr W10)
  have f12 := (Fw7.other W10 (Or.inr (slot_ne (Or.inr (own_w22 hw)) (Or.inr (own_w21 hw)) (by decide) (t := .byte) (t' := (.array .byte)) (by decide) (by decide))))
  have f13 := ((Vb3.other W7 (Ne.symm ne_a0r_fb3)).other W10 (Ne.symm ne_a0r_fb3))
  exact Goes.retV X10 hx e10 Bd.returns hlk (hb hby d3_57) (by decide) (by decide) (⟨rfl, N10, K_10, f11, fb3, fk3, Fw10, f12, f13⟩)
theorem ef_rmSI_1 (m : MethodId) (x0 : Addr) (x1 : Addr) : entryFrame m #[(.ref x0), (.ref x1)] 2 = mkF m 0 #[.val (.ref x0), .val (.ref x1)] [] := by first | (simp [entryFrame, mkF, argsToLocals, Value.category]; done) | rfl
def QSI_1 (Z : State) (a0r : Addr) (ca : Addr) (kc : ClassId) (cs : Int32) (ch0 : Int32) (h0 : Heap) (n0 : Nat) (v : Option Value) (h : Heap) (L : List Loc) : Prop := v = none ∧ Fr n0 L ∧ Keep h0 h [a0r] ∧ Exa Z h a0r "java/lang/String" ∧ ∃ (vb : Addr) (kv : ClassId), Fld Z h a0r "java/lang/String" "value" "[B" (.ref vb) ∧ Fld Z h a0r "java/lang/String" "coder" "B" (.int (0 : Int32)) ∧ Arv Z h vb kv .byte (1 : Int32) [.int (own_b ch0)] (.int (0 : Int32))
set_option maxRecDepth 65536 in
set_option maxHeartbeats 40000000 in
theorem rmSI_1 (l : Launch) (Z : State) (a0 : Array Value) (hw : ∀ d ∈ tables_1, d.before a0 Z = true) (ws : List Jvm.Cond) (a0r : Addr) (ca : Addr) (kc : ClassId) (cs : Int32) (ch0 : Int32) (h0 : Heap) (n0 : Nat) (O0 : Old Z n0 h0) (Er : Exa Z h0 a0r "java/lang/String") (gr : n0 ≤ a0r) (Fr_value : Fld Z h0 a0r "java/lang/String" "value" "[B" .null) (Fr_coder : Fld Z h0 a0r "java/lang/String" "coder" "B" (.int (0 : Int32))) (Vc : Arv Z h0 ca kc .char (1 : Int32) [.int ch0] (.int (0 : Int32))) (Sc : Sta Z h0 "java/lang/String" "COMPACT_STRINGS" "Z" (.int cs)) (hcs : ¬ cs = (0 : Int32)) (hk0 : own_ok ch0) :
    MetFree l (⟨"java/lang/String", "<init>", "([C)V"⟩ : MethodName) (head1 (Jvm.Cond.code (⟨"java/lang/String", "<init>", "([C)V"⟩ : MethodName) jdk_42_method_3_code 2 none :: ws) ({ frames := 3, cells := 1, slots := 1, locals := 52 } : Room)) (fun a U => a = #[(.ref a0r), (.ref ca)] ∧ Z.Warmed39 U.vm ∧ U.heap = h0) (fun _ _ _ _ _ => True) (fun _ U o U' => ∃ v L, o = .returned v ∧ QSI_1 Z a0r ca kc cs ch0 h0 n0 v U'.heap L ∧ FrameEnd U o U' L ({ frames := 3, cells := 1, slots := 1, locals := 52 } : Room).cells ({ frames := 3, cells := 1, slots := 1, locals := 52 } : Room).slots) := by
  refine MetFree.of_bodySF (plainFor_of_name pn_String) hisR ?_
  intro p e s m args below meth c s₁ Bd hml0 hP hK
  obtain ⟨rfl, hZ, hh⟩ := hP
  have hx := Bd.exec
  have hby := Bd.bytes
  have hlk : meth.locks = false := BodyLoose.notSynchronized Bd
  have hml : c.maxLocals = 2 := hml0
  have hown : s.vm.findClass "java/lang/String" = some m.cls := findClass_of_methodNamed Bd.named
  have hnm := (name_of_methodNamed Bd.named Bd.method).1
  have X0 : Stand p l e ({ frames := 3, cells := 1, slots := 1, locals := 52 } : Room) s m #[(.ref a0r), (.ref ca)] below meth c s₁ [] 0 0 := Stand.of_body Bd
  have e0 : s₁.heap = h0 := by rw [← hh, Bd.state]; rfl
  have N0 := Fr.nil n0
  show Goes p e below s (QSI_1 Z a0r ca kc cs ch0 h0 n0) ({ frames := 3, cells := 1, slots := 1, locals := 52 } : Room).cells ({ frames := 3, cells := 1, slots := 1, locals := 52 } : Room).slots (s₁.setTop (entryFrame m #[(.ref a0r), (.ref ca)] 2))
  refine Goes.enter (g' := (mkF m 0 #[.val (.ref a0r), .val (.ref ca)] [])) (ef_rmSI_1 m a0r ca) ?_
  refine Goes.step (fun _ k => pw_aloadN X0.here hx (hb hby d2_0) rfl rfl _ (pw_aloadN X0.here hx (hb hby d2_1) rfl rfl _ (pw_iconst X0.here hx (v := (0 : Int32)) (hb hby d2_2) rfl _ (pw_aloadN X0.here hx (hb hby d2_3) rfl rfl _ k)))) ?_
  obtain ⟨c1, Ar1, -, Sz1, Nn1, -, -⟩ := id Vc
  have len1 := X0.arraylength hx (by rw [e0]; exact Ar1.1) (State.isArrayOf_alike hZ.alike Ar1.2.1) (g := (mkF m 4 #[.val (.ref a0r), .val (.ref ca)] [(.ref ca), (.int 0), (.ref ca), (.ref a0r)])) rfl rfl (hb hby d2_4)
  rw [len_of Sz1 Nn1] at len1
  refine Goes.step (B := s₁.setTop (mkF m 5 #[.val (.ref a0r), .val (.ref ca)] [(.int 1), (.int 0), (.ref ca), (.ref a0r)])) len1 ?_
  refine Goes.step (fun _ k => pw_aconstNull X0.here hx (hb hby d2_5) _ k) ?_
  obtain ⟨_, _, ⟨T2, L2, k2, n2⟩, -, X2, ⟨Lc2, hQ2, l2, y2, z2⟩, st2⟩ := X0.specialBack hx (y := (⟨"java/lang/String", "<init>", "([CIILjava/lang/Void;)V"⟩ : MethodName)) rfl hown (mvT hZ (own_w12 hw)) (mvT hZ (own_w13 hw)) (mvT hZ (own_w15 hw)) (by decide) (backOf (W := 0) (rmSJ_1 l Z a0 hw [] a0r ca kc cs ch0 h0 n0 O0 Er gr Fr_value Fr_coder Vc Sc hcs hk0) hZ (own_w15 hw) (own_w8 hw) (by decide) (by decide)) (g := (mkF m 6 #[.val (.ref a0r), .val (.ref ca)] [.null, (.int 1), (.int 0), (.ref ca), (.ref a0r)])) rfl (by rw [hml]; rfl) (Steps.refl _) (a := a0r) (argsL := [(.ref ca), (.int 0), (.int 1), .null]) (rest := []) (lenOf pd_0 rfl) rfl (by show 2 * 0 + _ ≤ _; exact Nat.le_of_eq rfl) (hb hby d2_6) (fun _ _ => ⟨rfl, e0, (by decide : 0 + 1 ≤ _), (by decide : 0 + 1 ≤ _)⟩)
  dsimp only [Pt.U, Pt.locs, Pt.cells, Pt.slots] at X2 l2 y2 z2 st2 hQ2
  subst l2 y2 z2
  obtain ⟨rfl, Nq2, Kp2, Ex2, sv2, sk2, Fsv2, Fsc2, Vsv2⟩ := hQ2
  have O_2 := O0.keep Kp2 (allS gr all0)
  have K_2 := (Keep.refl h0 [a0r]).trans Kp2 (allS (P := fun x => x ∈ _ ∨ _) (Or.inl (List.mem_of_getElem? (i := 0) rfl)) all0)
  have N2 := Fr.app N0 Nq2
  refine Goes.via (B := T2.setTop (mkF m 9 #[.val (.ref a0r), .val (.ref ca)] [])) st2 ?_
  exact Goes.retV X2 hx rfl Bd.returns hlk (hb hby d2_9) (by decide) (by decide) (⟨rfl, N2, K_2, Ex2, sv2, sk2, Fsv2, Fsc2, Vsv2⟩)
theorem ef_rmC5_2 (m : MethodId) (x0 : Addr) (x1 : Int32) (x2 : Addr) (x3 : Int32) (x4 : Int32) : entryFrame m #[(.ref x0), (.int x1), (.ref x2), (.int x3), (.int x4)] 7 = mkF m 0 #[.val (.ref x0), .val (.int x1), .val (.ref x2), .val (.int x3), .val (.int x4), .unset, .unset] [] := by first | (simp [entryFrame, mkF, argsToLocals, Value.category]; done) | rfl
def QC5_2 (Z : State) (ca : Addr) (kc : ClassId) (bb : Addr) (kb : ClassId) (ch0 : Int32) (ch1 : Int32) (h0 : Heap) (n0 : Nat) (v : Option Value) (h : Heap) (L : List Loc) : Prop := v = some (.int (2 : Int32)) ∧ Fr n0 L ∧ Keep h0 h [bb] ∧ Arv Z h bb kb .byte (2 : Int32) [.int (own_b ch0), .int (own_b ch1)] (.int (0 : Int32))
set_option maxRecDepth 65536 in
set_option maxHeartbeats 40000000 in
theorem rmC5_2 (l : Launch) (Z : State) (a0 : Array Value) (hw : ∀ d ∈ tables_1, d.before a0 Z = true) (ws : List Jvm.Cond) (ca : Addr) (kc : ClassId) (bb : Addr) (kb : ClassId) (ch0 : Int32) (ch1 : Int32) (h0 : Heap) (n0 : Nat) (O0 : Old Z n0 h0) (Vc : Arv Z h0 ca kc .char (2 : Int32) [.int ch0, .int ch1] (.int (0 : Int32))) (Vb : Arv Z h0 bb kb .byte (2 : Int32) [.int (0 : Int32), .int (0 : Int32)] (.int (0 : Int32))) (gb : n0 ≤ bb) (ncb : ca ≠ bb) (hk0 : own_ok ch0) (hk1 : own_ok ch1) :
    MetFree l (⟨"java/lang/StringUTF16", "compress", "([CI[BII)I"⟩ : MethodName) (head1 (Jvm.Cond.code (⟨"java/lang/StringUTF16", "compress", "([CI[BII)I"⟩ : MethodName) jdk_52_method_21_code 7 (some .int) :: ws) ({ frames := 0, cells := 0, slots := 0, locals := 0 } : Room)) (fun a U => a = #[(.ref ca), (.int 0), (.ref bb), (.int 0), (.int 2)] ∧ Z.Warmed39 U.vm ∧ U.heap = h0) (fun _ _ _ _ _ => True) (fun _ U o U' => ∃ v L, o = .returned v ∧ QC5_2 Z ca kc bb kb ch0 ch1 h0 n0 v U'.heap L ∧ FrameEnd U o U' L ({ frames := 0, cells := 0, slots := 0, locals := 0 } : Room).cells ({ frames := 0, cells := 0, slots := 0, locals := 0 } : Room).slots) := by
  refine MetFree.of_bodySF (plainFor_of_name pn_StringUTF16) hisR ?_
  intro p e s m args below meth c s₁ Bd hml0 hP hK
  obtain ⟨rfl, hZ, hh⟩ := hP
  have hx := Bd.exec
  have hby := Bd.bytes
  have hlk : meth.locks = false := BodyLoose.notSynchronized Bd
  have hml : c.maxLocals = 7 := hml0
  have hown : s.vm.findClass "java/lang/StringUTF16" = some m.cls := findClass_of_methodNamed Bd.named
  have hnm := (name_of_methodNamed Bd.named Bd.method).1
  have X0 : Stand p l e ({ frames := 0, cells := 0, slots := 0, locals := 0 } : Room) s m #[(.ref ca), (.int 0), (.ref bb), (.int 0), (.int 2)] below meth c s₁ [] 0 0 := Stand.of_body Bd
  have e0 : s₁.heap = h0 := by rw [← hh, Bd.state]; rfl
  have N0 := Fr.nil n0
  show Goes p e below s (QC5_2 Z ca kc bb kb ch0 ch1 h0 n0) ({ frames := 0, cells := 0, slots := 0, locals := 0 } : Room).cells ({ frames := 0, cells := 0, slots := 0, locals := 0 } : Room).slots (s₁.setTop (entryFrame m #[(.ref ca), (.int 0), (.ref bb), (.int 0), (.int 2)] 7))
  refine Goes.enter (g' := (mkF m 0 #[.val (.ref ca), .val (.int 0), .val (.ref bb), .val (.int 0), .val (.int 2), .unset, .unset] [])) (ef_rmC5_2 m ca ((0 : Int32)) bb ((0 : Int32)) ((2 : Int32))) ?_
  refine Goes.step (fun _ k => pw_iconst X0.here hx (v := (0 : Int32)) (hb hby d19_0) rfl _ (pw_istore X0.here hx (l' := #[.val (.ref ca), .val (.int 0), .val (.ref bb), .val (.int 0), .val (.int 2), .val (.int 0), .unset]) (hb hby d19_1) rfl _ (pw_iload X0.here hx (hb hby d19_3) rfl _ (pw_iload X0.here hx (hb hby d19_5) rfl _ (pw_icmpNo X0.here hx (hb hby d19_7) (tlt (by decide)).2.1 _ (pw_aloadN X0.here hx (hb hby d19_10) rfl rfl _ k)))))) ?_
  refine Goes.step (fun _ k => pw_iloadN X0.here hx (hb hby d19_11) rfl _ k) ?_
  obtain ⟨c1, Ar1, -, Sz1, Nn1, Hs1, -⟩ := id Vc
  have hin1 : ¬ ((0 : Int32) < 0 ∨ c1.slots.size ≤ ((0 : Int32)).toNatClampNeg) := inb_of Sz1 ⟨by decide, by decide⟩
  refine Goes.step (B := s₁.setTop (mkF m 13 #[.val (.ref ca), .val (.int 0), .val (.ref bb), .val (.int 0), .val (.int 2), .val (.int 0), .unset] [(.int ch0)])) (X0.caload hx (j := (0 : Int32)) (v := (.int ch0)) (by rw [e0]; exact Ar1.1) (State.isArrayOf_alike hZ.alike Ar1.2.1) Ar1.2.2 hin1 (Has.at Hs1 hin1 rfl) (g := (mkF m 12 #[.val (.ref ca), .val (.int 0), .val (.ref bb), .val (.int 0), .val (.int 2), .val (.int 0), .unset] [(.int 0), (.ref ca)])) rfl rfl (hb hby d19_12)) ?_
  refine Goes.step (fun _ k => pw_istore X0.here hx (l' := #[.val (.ref ca), .val (.int 0), .val (.ref bb), .val (.int 0), .val (.int 2), .val (.int 0), .val (.int ch0)]) (hb hby d19_13) rfl _ (pw_iload X0.here hx (hb hby d19_15) rfl _ (pw_sipush X0.here hx (v := (255 : Int32)) (hb hby d19_17) rfl _ (pw_icmpYes X0.here hx (pc' := 26) (hb hby d19_20) (flt (own_le hk0)).2.2.2 (by decide) (by decide) _ (pw_aloadN X0.here hx (hb hby d19_26) rfl rfl _ (pw_iloadN X0.here hx (hb hby d19_27) rfl _ k)))))) ?_
  refine Goes.step (fun _ k => pw_iload X0.here hx (hb hby d19_28) rfl _ k) ?_
  refine Goes.step (B := s₁.setTop (mkF m 31 #[.val (.ref ca), .val (.int 0), .val (.ref bb), .val (.int 0), .val (.int 2), .val (.int 0), .val (.int ch0)] [(.int (ch0.toInt8.toInt32)), (.int 0), (.ref bb)])) (fun _ k => XS.i2b X0.here hx rfl (hb hby d19_30) rfl k) ?_
  obtain ⟨c2, Ar2, q2, Sz2, Nn2, Hs2, Gs2⟩ := id Vb
  have hin2 : ¬ ((0 : Int32) < 0 ∨ c2.slots.size ≤ ((0 : Int32)).toNatClampNeg) := inb_of Sz2 ⟨by decide, by decide⟩
  obtain ⟨T2, h2, X2, e2, W2, st2⟩ := stB X0 hx hZ e0 Ar2 (j := (0 : Int32)) hin2 (g := (mkF m 31 #[.val (.ref ca), .val (.int 0), .val (.ref bb), .val (.int 0), .val (.int 2), .val (.int 0), .val (.int ch0)] [(.int (ch0.toInt8.toInt32)), (.int 0), (.ref bb)])) rfl rfl (hb hby d19_31)
  have V2 : Arv Z h2 bb kb .byte (2 : Int32) [(.int (nar .byte (ch0.toInt8.toInt32))), (.int 0)] (.int 0) := Arv.set Ar2 q2 Sz2 Nn2 Hs2 Gs2 (fits_nar_byte _) W2 0 rfl (Nat.le_of_ble_eq_true rfl)
  have N2 := Fr.snoc X2 N0 gb
  have O_2 := O0.wr W2 gb
  have K_2 := (Keep.refl h0 [bb]).wr W2 (Or.inl (List.mem_of_getElem? (i := 0) rfl))
  refine Goes.step (B := T2.setTop (mkF m 32 #[.val (.ref ca), .val (.int 0), .val (.ref bb), .val (.int 0), .val (.int 2), .val (.int 0), .val (.int ch0)] [])) st2 ?_
  refine Goes.step (fun _ k => pw_iinc X2.here hx (l' := #[.val (.ref ca), .val (.int 1), .val (.ref bb), .val (.int 0), .val (.int 2), .val (.int 0), .val (.int ch0)]) (hb hby d19_32) rfl rfl _ (pw_iinc X2.here hx (l' := #[.val (.ref ca), .val (.int 1), .val (.ref bb), .val (.int 1), .val (.int 2), .val (.int 0), .val (.int ch0)]) (hb hby d19_35) rfl rfl _ (pw_iinc X2.here hx (l' := #[.val (.ref ca), .val (.int 1), .val (.ref bb), .val (.int 1), .val (.int 2), .val (.int 1), .val (.int ch0)]) (hb hby d19_38) rfl rfl _ (pw_goto X2.here hx (pc' := 3) (hb hby d19_41) (by decide) (by decide) _ (pw_iload X2.here hx (hb hby d19_3) rfl _ (pw_iload X2.here hx (hb hby d19_5) rfl _ k)))))) ?_
  refine Goes.step (fun _ k => pw_icmpNo X2.here hx (hb hby d19_7) (tlt (by decide)).2.1 _ (pw_aloadN X2.here hx (hb hby d19_10) rfl rfl _ (pw_iloadN X2.here hx (hb hby d19_11) rfl _ k))) ?_
  have f3 := (Vc.other W2 ncb)
  obtain ⟨c4, Ar4, -, Sz4, Nn4, Hs4, -⟩ := id f3
  have hin4 : ¬ ((1 : Int32) < 0 ∨ c4.slots.size ≤ ((1 : Int32)).toNatClampNeg) := inb_of Sz4 ⟨by decide, by decide⟩
  refine Goes.step (B := T2.setTop (mkF m 13 #[.val (.ref ca), .val (.int 1), .val (.ref bb), .val (.int 1), .val (.int 2), .val (.int 1), .val (.int ch0)] [(.int ch1)])) (X2.caload hx (j := (1 : Int32)) (v := (.int ch1)) (by rw [e2]; exact Ar4.1) (State.isArrayOf_alike hZ.alike Ar4.2.1) Ar4.2.2 hin4 (Has.at Hs4 hin4 rfl) (g := (mkF m 12 #[.val (.ref ca), .val (.int 1), .val (.ref bb), .val (.int 1), .val (.int 2), .val (.int 1), .val (.int ch0)] [(.int 1), (.ref ca)])) rfl rfl (hb hby d19_12)) ?_
  refine Goes.step (fun _ k => pw_istore X2.here hx (l' := #[.val (.ref ca), .val (.int 1), .val (.ref bb), .val (.int 1), .val (.int 2), .val (.int 1), .val (.int ch1)]) (hb hby d19_13) rfl _ (pw_iload X2.here hx (hb hby d19_15) rfl _ (pw_sipush X2.here hx (v := (255 : Int32)) (hb hby d19_17) rfl _ (pw_icmpYes X2.here hx (pc' := 26) (hb hby d19_20) (flt (own_le hk1)).2.2.2 (by decide) (by decide) _ (pw_aloadN X2.here hx (hb hby d19_26) rfl rfl _ (pw_iloadN X2.here hx (hb hby d19_27) rfl _ k)))))) ?_
  refine Goes.step (fun _ k => pw_iload X2.here hx (hb hby d19_28) rfl _ k) ?_
  refine Goes.step (B := T2.setTop (mkF m 31 #[.val (.ref ca), .val (.int 1), .val (.ref bb), .val (.int 1), .val (.int 2), .val (.int 1), .val (.int ch1)] [(.int (ch1.toInt8.toInt32)), (.int 1), (.ref bb)])) (fun _ k => XS.i2b X2.here hx rfl (hb hby d19_30) rfl k) ?_
  obtain ⟨c5, Ar5, q5, Sz5, Nn5, Hs5, Gs5⟩ := id V2
  have hin5 : ¬ ((1 : Int32) < 0 ∨ c5.slots.size ≤ ((1 : Int32)).toNatClampNeg) := inb_of Sz5 ⟨by decide, by decide⟩
  obtain ⟨T5, h5, X5, e5, W5, st5⟩ := stB X2 hx hZ e2 Ar5 (j := (1 : Int32)) hin5 (g := (mkF m 31 #[.val (.ref ca), .val (.int 1), .val (.ref bb), .val (.int 1), .val (.int 2), .val (.int 1), .val (.int ch1)] [(.int (ch1.toInt8.toInt32)), (.int 1), (.ref bb)])) rfl rfl (hb hby d19_31)
  have V5 : Arv Z h5 bb kb .byte (2 : Int32) [(.int (nar .byte (ch0.toInt8.toInt32))), (.int (nar .byte (ch1.toInt8.toInt32)))] (.int 0) := Arv.set Ar5 q5 Sz5 Nn5 Hs5 Gs5 (fits_nar_byte _) W5 1 rfl (Nat.le_of_ble_eq_true rfl)
  have N5 := Fr.snoc X5 N2 gb
  have O_5 := O_2.wr W5 gb
  have K_5 := K_2.wr W5 (Or.inl (List.mem_of_getElem? (i := 0) rfl))
  refine Goes.step (B := T5.setTop (mkF m 32 #[.val (.ref ca), .val (.int 1), .val (.ref bb), .val (.int 1), .val (.int 2), .val (.int 1), .val (.int ch1)] [])) st5 ?_
  refine Goes.step (fun _ k => pw_iinc X5.here hx (l' := #[.val (.ref ca), .val (.int 2), .val (.ref bb), .val (.int 1), .val (.int 2), .val (.int 1), .val (.int ch1)]) (hb hby d19_32) rfl rfl _ (pw_iinc X5.here hx (l' := #[.val (.ref ca), .val (.int 2), .val (.ref bb), .val (.int 2), .val (.int 2), .val (.int 1), .val (.int ch1)]) (hb hby d19_35) rfl rfl _ (pw_iinc X5.here hx (l' := #[.val (.ref ca), .val (.int 2), .val (.ref bb), .val (.int 2), .val (.int 2), .val (.int 2), .val (.int ch1)]) (hb hby d19_38) rfl rfl _ (pw_goto X5.here hx (pc' := 3) (hb hby d19_41) (by decide) (by decide) _ (pw_iload X5.here hx (hb hby d19_3) rfl _ (pw_iload X5.here hx (hb hby d19_5) rfl _ k)))))) ?_
  refine Goes.step (fun _ k => pw_icmpYes X5.here hx (pc' := 44) (hb hby d19_7) (flt (by decide)).2.1 (by decide) (by decide) _ (pw_iload X5.here hx (hb hby d19_44) rfl _ k)) ?_
  exact Goes.retI X5 hx e5 Bd.returns hlk (hb hby d19_46) (by decide) (by decide) (⟨rfl, N5, K_5, V5⟩)
theorem ef_rmC3_2 (m : MethodId) (x0 : Addr) (x1 : Int32) (x2 : Int32) : entryFrame m #[(.ref x0), (.int x1), (.int x2)] 6 = mkF m 0 #[.val (.ref x0), .val (.int x1), .val (.int x2), .unset, .unset, .unset] [] := by first | (simp [entryFrame, mkF, argsToLocals, Value.category]; done) | rfl
def QC3_2 (Z : State) (ca : Addr) (kc : ClassId) (ch0 : Int32) (ch1 : Int32) (h0 : Heap) (n0 : Nat) (v : Option Value) (h : Heap) (L : List Loc) : Prop := ∃ (b : Addr) (k : ClassId), v = some (.ref b) ∧ Fr n0 L ∧ Keep h0 h [] ∧ n0 ≤ b ∧ h0.size ≤ b ∧ Arv Z h b k .byte (2 : Int32) [(.int (own_b ch0)), (.int (own_b ch1))] (.int 0)
set_option maxRecDepth 65536 in
set_option maxHeartbeats 40000000 in
theorem rmC3_2 (l : Launch) (Z : State) (a0 : Array Value) (hw : ∀ d ∈ tables_1, d.before a0 Z = true) (ws : List Jvm.Cond) (ca : Addr) (kc : ClassId) (ch0 : Int32) (ch1 : Int32) (h0 : Heap) (n0 : Nat) (O0 : Old Z n0 h0) (Vc : Arv Z h0 ca kc .char (2 : Int32) [.int ch0, .int ch1] (.int (0 : Int32))) (hk0 : own_ok ch0) (hk1 : own_ok ch1) :
    MetFree l (⟨"java/lang/StringUTF16", "compress", "([CII)[B"⟩ : MethodName) (head1 (Jvm.Cond.code (⟨"java/lang/StringUTF16", "compress", "([CII)[B"⟩ : MethodName) jdk_52_method_16_code 6 (some (.array .byte)) :: ws) ({ frames := 1, cells := 1, slots := 2, locals := 18 } : Room)) (fun a U => a = #[(.ref ca), (.int 0), (.int 2)] ∧ Z.Warmed39 U.vm ∧ U.heap = h0) (fun _ _ _ _ _ => True) (fun _ U o U' => ∃ v L, o = .returned v ∧ QC3_2 Z ca kc ch0 ch1 h0 n0 v U'.heap L ∧ FrameEnd U o U' L ({ frames := 1, cells := 1, slots := 2, locals := 18 } : Room).cells ({ frames := 1, cells := 1, slots := 2, locals := 18 } : Room).slots) := by
  refine MetFree.of_bodySF (plainFor_of_name pn_StringUTF16) hisR ?_
  intro p e s m args below meth c s₁ Bd hml0 hP hK
  obtain ⟨rfl, hZ, hh⟩ := hP
  have hx := Bd.exec
  have hby := Bd.bytes
  have hlk : meth.locks = false := BodyLoose.notSynchronized Bd
  have hml : c.maxLocals = 6 := hml0
  have hown : s.vm.findClass "java/lang/StringUTF16" = some m.cls := findClass_of_methodNamed Bd.named
  have hnm := (name_of_methodNamed Bd.named Bd.method).1
  have X0 : Stand p l e ({ frames := 1, cells := 1, slots := 2, locals := 18 } : Room) s m #[(.ref ca), (.int 0), (.int 2)] below meth c s₁ [] 0 0 := Stand.of_body Bd
  have e0 : s₁.heap = h0 := by rw [← hh, Bd.state]; rfl
  have N0 := Fr.nil n0
  show Goes p e below s (QC3_2 Z ca kc ch0 ch1 h0 n0) ({ frames := 1, cells := 1, slots := 2, locals := 18 } : Room).cells ({ frames := 1, cells := 1, slots := 2, locals := 18 } : Room).slots (s₁.setTop (entryFrame m #[(.ref ca), (.int 0), (.int 2)] 6))
  refine Goes.enter (g' := (mkF m 0 #[.val (.ref ca), .val (.int 0), .val (.int 2), .unset, .unset, .unset] [])) (ef_rmC3_2 m ca ((0 : Int32)) ((2 : Int32))) ?_
  refine Goes.step (fun _ k => pw_iloadN X0.here hx (hb hby d18_0) rfl _ k) ?_
  obtain ⟨T1, h1, k1, X1, e1, E1, A1, st1⟩ := newP (aty := .byte) X0 hx hZ (own_w20 hw) e0 (g := (mkF m 1 #[.val (.ref ca), .val (.int 0), .val (.int 2), .unset, .unset, .unset] [(.int 2)])) rfl (hb hby d18_1) rfl (by decide) (cap := 2) (by decide) (by decide) (by decide) (by decide)
  obtain ⟨b1, g1⟩ : ∃ z, z = h0.size := ⟨_, rfl⟩
  rw [← g1] at A1 st1
  have ne_ca_b1 : ca ≠ b1 := Nat.ne_of_lt (Nat.lt_of_lt_of_le Vc.lt (Nat.le_of_eq g1.symm))
  have g_b1 : n0 ≤ b1 := Nat.le_trans (own_z O0) (Nat.le_of_eq g1.symm)
  have O_1 := O0.ext E1
  have sz_b1 : h0.size ≤ b1 := Nat.le_trans (Keep.refl h0 []).1 (Nat.le_of_eq g1.symm)
  have K_1 := (Keep.refl h0 []).ext E1
  have V_b1 : Arv Z h1 b1 k1 .byte (2 : Int32) [(.int 0), (.int 0)] (.int 0) := (Arv.new A1 (by decide)).pad (pad_rep [] (.int 0) 2)
  refine Goes.step (B := T1.setTop (mkF m 3 #[.val (.ref ca), .val (.int 0), .val (.int 2), .unset, .unset, .unset] [(.ref b1)])) st1 ?_
  refine Goes.step (fun _ k => pw_astoreN X1.here hx (l' := #[.val (.ref ca), .val (.int 0), .val (.int 2), .val (.ref b1), .unset, .unset]) (hb hby d18_3) rfl rfl _ (pw_aloadN X1.here hx (hb hby d18_4) rfl rfl _ (pw_iloadN X1.here hx (hb hby d18_5) rfl _ (pw_aloadN X1.here hx (hb hby d18_6) rfl rfl _ (pw_iconst X1.here hx (v := (0 : Int32)) (hb hby d18_7) rfl _ (pw_iloadN X1.here hx (hb hby d18_8) rfl _ k)))))) ?_
  have f3 := (Vc.ext E1)
  obtain ⟨_, _, ⟨T2, L2, k2, n2⟩, -, X2, ⟨Lc2, hQ2, l2, y2, z2⟩, st2⟩ := Jvm.LawKit.callS X1 hx (y := (⟨"java/lang/StringUTF16", "compress", "([CI[BII)I"⟩ : MethodName)) hown (mvT hZ (own_w87 hw)) (mvT hZ (own_w88 hw)) (mvT hZ (own_w85 hw)) (mvT hZ (own_w89 hw)) (by decide) (backOf (W := 0) (rmC5_2 l Z a0 hw [] ca kc b1 k1 ch0 ch1 h1 n0 O_1 f3 V_b1 g_b1 ne_ca_b1 hk0 hk1) hZ (own_w89 hw) (own_w85 hw) (by decide) (by decide)) (g := (mkF m 9 #[.val (.ref ca), .val (.int 0), .val (.int 2), .val (.ref b1), .unset, .unset] [(.int 2), (.int 0), (.ref b1), (.int 0), (.ref ca)])) rfl (by rw [hml]; rfl) (argsL := [(.ref ca), (.int 0), (.ref b1), (.int 0), (.int 2)]) (rest := []) (lenOf pd_1 rfl) rfl (by show 2 * 0 + _ ≤ _; exact Nat.le_of_eq rfl) (hb hby d18_9) (fun _ _ => ⟨rfl, e1, (by decide : 1 + 0 ≤ _), (by decide : 2 + 0 ≤ _)⟩)
  dsimp only [Pt.U, Pt.locs, Pt.cells, Pt.slots] at X2 l2 y2 z2 st2 hQ2
  subst l2 y2 z2
  obtain ⟨rfl, Nq2, Kp2, Vq2⟩ := hQ2
  have O_2 := O_1.keep Kp2 (allS g_b1 all0)
  have K_2 := K_1.trans Kp2 (allS (P := fun x => x ∈ _ ∨ _) (Or.inr sz_b1) all0)
  have N2 := Fr.app N0 Nq2
  refine Goes.step (B := T2.setTop (mkF m 12 #[.val (.ref ca), .val (.int 0), .val (.int 2), .val (.ref b1), .unset, .unset] [(.int 2)])) st2 ?_
  refine Goes.step (fun _ k => pw_istore X2.here hx (l' := #[.val (.ref ca), .val (.int 0), .val (.int 2), .val (.ref b1), .val (.int 2), .unset]) (hb hby d18_12) rfl _ (pw_iload X2.here hx (hb hby d18_14) rfl _ (pw_iloadN X2.here hx (hb hby d18_16) rfl _ (pw_icmpYes X2.here hx (pc' := 57) (hb hby d18_17) (teq (by decide)).1 (by decide) (by decide) _ (pw_aloadN X2.here hx (hb hby d18_57) rfl rfl _ k))))) ?_
  exact Goes.retA X2 hx rfl Bd.returns rfl rfl hlk (hb hby d18_58) (by decide) (by decide) (⟨b1, k1, rfl, N2, K_2, g_b1, sz_b1, Vq2⟩)
theorem ef_rmCF_2 (m : MethodId) (x0 : Addr) (x1 : Int32) : entryFrame m #[(.ref x0), (.int x1)] 2 = mkF m 0 #[.val (.ref x0), .val (.int x1)] [] := by first | (simp [entryFrame, mkF, argsToLocals, Value.category]; done) | rfl
def QCF_2 (Z : State) (bb : Addr) (kb : ClassId) (ls : List Value) (h0 : Heap) (n0 : Nat) (v : Option Value) (h : Heap) (L : List Loc) : Prop := v = some (.int 0) ∧ Fr n0 L ∧ h = h0
set_option maxRecDepth 65536 in
set_option maxHeartbeats 40000000 in
theorem rmCF_2 (l : Launch) (Z : State) (a0 : Array Value) (hw : ∀ d ∈ tables_1, d.before a0 Z = true) (ws : List Jvm.Cond) (bb : Addr) (kb : ClassId) (ls : List Value) (h0 : Heap) (n0 : Nat) (O0 : Old Z n0 h0) (Vb : Arv Z h0 bb kb .byte (2 : Int32) ls (.int (0 : Int32))) :
    MetFree l (⟨"java/lang/StringUTF16", "coderFromArrayLen", "([BI)B"⟩ : MethodName) (head1 (Jvm.Cond.code (⟨"java/lang/StringUTF16", "coderFromArrayLen", "([BI)B"⟩ : MethodName) jdk_52_method_15_code 2 (some .byte) :: ws) ({ frames := 0, cells := 0, slots := 0, locals := 0 } : Room)) (fun a U => a = #[(.ref bb), (.int 2)] ∧ Z.Warmed39 U.vm ∧ U.heap = h0) (fun _ _ _ _ _ => True) (fun _ U o U' => ∃ v L, o = .returned v ∧ QCF_2 Z bb kb ls h0 n0 v U'.heap L ∧ FrameEnd U o U' L ({ frames := 0, cells := 0, slots := 0, locals := 0 } : Room).cells ({ frames := 0, cells := 0, slots := 0, locals := 0 } : Room).slots) := by
  refine MetFree.of_bodySF (plainFor_of_name pn_StringUTF16) hisR ?_
  intro p e s m args below meth c s₁ Bd hml0 hP hK
  obtain ⟨rfl, hZ, hh⟩ := hP
  have hx := Bd.exec
  have hby := Bd.bytes
  have hlk : meth.locks = false := BodyLoose.notSynchronized Bd
  have hml : c.maxLocals = 2 := hml0
  have hown : s.vm.findClass "java/lang/StringUTF16" = some m.cls := findClass_of_methodNamed Bd.named
  have hnm := (name_of_methodNamed Bd.named Bd.method).1
  have X0 : Stand p l e ({ frames := 0, cells := 0, slots := 0, locals := 0 } : Room) s m #[(.ref bb), (.int 2)] below meth c s₁ [] 0 0 := Stand.of_body Bd
  have e0 : s₁.heap = h0 := by rw [← hh, Bd.state]; rfl
  have N0 := Fr.nil n0
  show Goes p e below s (QCF_2 Z bb kb ls h0 n0) ({ frames := 0, cells := 0, slots := 0, locals := 0 } : Room).cells ({ frames := 0, cells := 0, slots := 0, locals := 0 } : Room).slots (s₁.setTop (entryFrame m #[(.ref bb), (.int 2)] 2))
  refine Goes.enter (g' := (mkF m 0 #[.val (.ref bb), .val (.int 2)] [])) (ef_rmCF_2 m bb ((2 : Int32))) ?_
  refine Goes.step (fun _ k => pw_iloadN X0.here hx (hb hby d20_0) rfl _ (pw_aloadN X0.here hx (hb hby d20_1) rfl rfl _ k)) ?_
  obtain ⟨c1, Ar1, -, Sz1, Nn1, -, -⟩ := id Vb
  have len1 := X0.arraylength hx (by rw [e0]; exact Ar1.1) (State.isArrayOf_alike hZ.alike Ar1.2.1) (g := (mkF m 2 #[.val (.ref bb), .val (.int 2)] [(.ref bb), (.int 2)])) rfl rfl (hb hby d20_2)
  rw [len_of Sz1 Nn1] at len1
  refine Goes.step (B := s₁.setTop (mkF m 3 #[.val (.ref bb), .val (.int 2)] [(.int 2), (.int 2)])) len1 ?_
  refine Goes.step (B := s₁.setTop (mkF m 4 #[.val (.ref bb), .val (.int 2)] [(.int 0)])) (fun _ k => XS.isub X0.here hx rfl (hb hby d20_3) rfl k) ?_
  refine Goes.step (fun _ k => pw_bipush X0.here hx (v := (31 : Int32)) (hb hby d20_4) rfl _ k) ?_
  refine Goes.step (B := s₁.setTop (mkF m 7 #[.val (.ref bb), .val (.int 2)] [(.int 0)])) (fun _ k => XS.iushr X0.here hx rfl (hb hby d20_6) rfl k) ?_
  refine Goes.step (B := s₁.setTop (mkF m 8 #[.val (.ref bb), .val (.int 2)] [(.int 0)])) (fun _ k => XS.i2b X0.here hx rfl (hb hby d20_7) rfl k) ?_
  exact Goes.retN X0 hx e0 (t := .byte) Bd.returns (by simp) hlk (hb hby d20_8) (by decide) (by decide) (⟨rfl, N0, rfl⟩)
theorem ef_rmSJ_2 (m : MethodId) (x0 : Addr) (x1 : Addr) (x2 : Int32) (x3 : Int32) : entryFrame m #[(.ref x0), (.ref x1), (.int x2), (.int x3), .null] 6 = mkF m 0 #[.val (.ref x0), .val (.ref x1), .val (.int x2), .val (.int x3), .val .null, .unset] [] := by first | (simp [entryFrame, mkF, argsToLocals, Value.category]; done) | rfl
def QSJ_2 (Z : State) (a0r : Addr) (ca : Addr) (kc : ClassId) (cs : Int32) (ch0 : Int32) (ch1 : Int32) (h0 : Heap) (n0 : Nat) (v : Option Value) (h : Heap) (L : List Loc) : Prop := v = none ∧ Fr n0 L ∧ Keep h0 h [a0r] ∧ Exa Z h a0r "java/lang/String" ∧ ∃ (vb : Addr) (kv : ClassId), Fld Z h a0r "java/lang/String" "value" "[B" (.ref vb) ∧ Fld Z h a0r "java/lang/String" "coder" "B" (.int (0 : Int32)) ∧ Arv Z h vb kv .byte (2 : Int32) [.int (own_b ch0), .int (own_b ch1)] (.int (0 : Int32))
set_option maxRecDepth 65536 in
set_option maxHeartbeats 40000000 in
theorem rmSJ_2 (l : Launch) (Z : State) (a0 : Array Value) (hw : ∀ d ∈ tables_1, d.before a0 Z = true) (ws : List Jvm.Cond) (a0r : Addr) (ca : Addr) (kc : ClassId) (cs : Int32) (ch0 : Int32) (ch1 : Int32) (h0 : Heap) (n0 : Nat) (O0 : Old Z n0 h0) (Er : Exa Z h0 a0r "java/lang/String") (gr : n0 ≤ a0r) (Fr_value : Fld Z h0 a0r "java/lang/String" "value" "[B" .null) (Fr_coder : Fld Z h0 a0r "java/lang/String" "coder" "B" (.int (0 : Int32))) (Vc : Arv Z h0 ca kc .char (2 : Int32) [.int ch0, .int ch1] (.int (0 : Int32))) (Sc : Sta Z h0 "java/lang/String" "COMPACT_STRINGS" "Z" (.int cs)) (hcs : ¬ cs = (0 : Int32)) (hk0 : own_ok ch0) (hk1 : own_ok ch1) :
    MetFree l (⟨"java/lang/String", "<init>", "([CIILjava/lang/Void;)V"⟩ : MethodName) (head1 (Jvm.Cond.code (⟨"java/lang/String", "<init>", "([CIILjava/lang/Void;)V"⟩ : MethodName) jdk_42_method_149_code 6 none :: ws) ({ frames := 2, cells := 1, slots := 2, locals := 35 } : Room)) (fun a U => a = #[(.ref a0r), (.ref ca), (.int 0), (.int 2), .null] ∧ Z.Warmed39 U.vm ∧ U.heap = h0) (fun _ _ _ _ _ => True) (fun _ U o U' => ∃ v L, o = .returned v ∧ QSJ_2 Z a0r ca kc cs ch0 ch1 h0 n0 v U'.heap L ∧ FrameEnd U o U' L ({ frames := 2, cells := 1, slots := 2, locals := 35 } : Room).cells ({ frames := 2, cells := 1, slots := 2, locals := 35 } : Room).slots) := by
  refine MetFree.of_bodySF (plainFor_of_name pn_String) hisR ?_
  intro p e s m args below meth c s₁ Bd hml0 hP hK
  obtain ⟨rfl, hZ, hh⟩ := hP
  have hx := Bd.exec
  have hby := Bd.bytes
  have hlk : meth.locks = false := BodyLoose.notSynchronized Bd
  have hml : c.maxLocals = 6 := hml0
  have hown : s.vm.findClass "java/lang/String" = some m.cls := findClass_of_methodNamed Bd.named
  have hnm := (name_of_methodNamed Bd.named Bd.method).1
  have X0 : Stand p l e ({ frames := 2, cells := 1, slots := 2, locals := 35 } : Room) s m #[(.ref a0r), (.ref ca), (.int 0), (.int 2), .null] below meth c s₁ [] 0 0 := Stand.of_body Bd
  have e0 : s₁.heap = h0 := by rw [← hh, Bd.state]; rfl
  have N0 := Fr.nil n0
  show Goes p e below s (QSJ_2 Z a0r ca kc cs ch0 ch1 h0 n0) ({ frames := 2, cells := 1, slots := 2, locals := 35 } : Room).cells ({ frames := 2, cells := 1, slots := 2, locals := 35 } : Room).slots (s₁.setTop (entryFrame m #[(.ref a0r), (.ref ca), (.int 0), (.int 2), .null] 6))
  refine Goes.enter (g' := (mkF m 0 #[.val (.ref a0r), .val (.ref ca), .val (.int 0), .val (.int 2), .val .null, .unset] [])) (ef_rmSJ_2 m a0r ca ((0 : Int32)) ((2 : Int32))) ?_
  refine Goes.step (fun _ k => pw_aloadN X0.here hx (hb hby d3_0) rfl rfl _ k) ?_
  obtain ⟨T1, X1, e1, st1⟩ := initO X0 hx hZ hown (own_w16 hw) (own_w17 hw) (own_w18 hw) e0 (g := (mkF m 1 #[.val (.ref a0r), .val (.ref ca), .val (.int 0), .val (.int 2), .val .null, .unset] [(.ref a0r)])) rfl (by rw [hml]; rfl) rfl (hb hby d3_1) (by decide) (W := 0) (by show 2 * 0 + _ ≤ _; exact Nat.le_of_eq rfl) (by decide)
  refine Goes.step (B := T1.setTop (mkF m 4 #[.val (.ref a0r), .val (.ref ca), .val (.int 0), .val (.int 2), .val .null, .unset] [])) st1 ?_
  refine Goes.step (fun _ k => pw_iloadN X1.here hx (hb hby d3_4) rfl _ (pw_ifYes X1.here hx (pc' := 27) (hb hby d3_5) ((if0 _ _).trans (feq (by decide)).2) (by decide) (by decide) _ k)) ?_
  obtain ⟨T2, X2, e2, st2⟩ := getS2 X1 hx hZ hown (host := "") (Or.inl (own_w46 hw)) Via.refl e1 Sc (g := (mkF m 27 #[.val (.ref a0r), .val (.ref ca), .val (.int 0), .val (.int 2), .val .null, .unset] [])) rfl (hb hby d3_27)
  refine Goes.step (B := T2.setTop (mkF m 30 #[.val (.ref a0r), .val (.ref ca), .val (.int 0), .val (.int 2), .val .null, .unset] [(.int cs)])) st2 ?_
  refine Goes.step (fun _ k => pw_ifNo X2.here hx (hb hby d3_30) ((if0 _ _).trans (feq hcs).1) _ (pw_aloadN X2.here hx (hb hby d3_33) rfl rfl _ (pw_iloadN X2.here hx (hb hby d3_34) rfl _ (pw_iloadN X2.here hx (hb hby d3_35) rfl _ k)))) ?_
  have lt_a0r_3 := Er.lt
  have lt_ca_3 := Vc.lt
  obtain ⟨_, _, ⟨T3, L3, k3, n3⟩, -, X3, ⟨Lc3, hQ3, l3, y3, z3⟩, st3⟩ := Jvm.LawKit.callS X2 hx (y := (⟨"java/lang/StringUTF16", "compress", "([CII)[B"⟩ : MethodName)) hown (mvT hZ (own_w83 hw)) (mvT hZ (own_w84 hw)) (mvT hZ (own_w85 hw)) (mvT hZ (own_w86 hw)) (by decide) (backOf (W := 0) (rmC3_2 l Z a0 hw [] ca kc ch0 ch1 h0 n0 O0 Vc hk0 hk1) hZ (own_w86 hw) (own_w85 hw) (by decide) (by decide)) (g := (mkF m 36 #[.val (.ref a0r), .val (.ref ca), .val (.int 0), .val (.int 2), .val .null, .unset] [(.int 2), (.int 0), (.ref ca)])) rfl (by rw [hml]; rfl) (argsL := [(.ref ca), (.int 0), (.int 2)]) (rest := []) (lenOf pd_2 rfl) rfl (by show 2 * 0 + _ ≤ _; exact Nat.le_of_eq rfl) (hb hby d3_36) (fun _ _ => ⟨rfl, e2, (by decide : 0 + 1 ≤ _), (by decide : 0 + 2 ≤ _)⟩)
  dsimp only [Pt.U, Pt.locs, Pt.cells, Pt.slots] at X3 l3 y3 z3 st3 hQ3
  subst l3 y3 z3
  obtain ⟨fb3, fk3, rfl, Nq3, Kp3, gb3, sb3, Vb3⟩ := hQ3
  have ne_a0r_fb3 : a0r ≠ fb3 := Nat.ne_of_lt (Nat.lt_of_lt_of_le lt_a0r_3 sb3)
  have ne_ca_fb3 : ca ≠ fb3 := Nat.ne_of_lt (Nat.lt_of_lt_of_le lt_ca_3 sb3)
  have O_3 := O0.keep Kp3 all0
  have K_3 := (Keep.refl h0 [a0r]).trans Kp3 all0
  have N3 := Fr.app N0 Nq3
  refine Goes.step (B := T3.setTop (mkF m 39 #[.val (.ref a0r), .val (.ref ca), .val (.int 0), .val (.int 2), .val .null, .unset] [(.ref fb3)])) st3 ?_
  refine Goes.step (fun _ k => pw_astore X3.here hx (l' := #[.val (.ref a0r), .val (.ref ca), .val (.int 0), .val (.int 2), .val .null, .val (.ref fb3)]) (hb hby d3_39) rfl rfl _ (pw_aloadN X3.here hx (hb hby d3_41) rfl rfl _ (pw_aload X3.here hx (hb hby d3_42) rfl rfl _ (pw_iloadN X3.here hx (hb hby d3_44) rfl _ k)))) ?_
  obtain ⟨_, _, ⟨T4, L4, k4, n4⟩, -, X4, ⟨Lc4, hQ4, l4, y4, z4⟩, st4⟩ := Jvm.LawKit.callS X3 hx (y := (⟨"java/lang/StringUTF16", "coderFromArrayLen", "([BI)B"⟩ : MethodName)) hown (mvT hZ (own_w90 hw)) (mvT hZ (own_w91 hw)) (mvT hZ (own_w85 hw)) (mvT hZ (own_w92 hw)) (by decide) (backOf (W := 1) (rmCF_2 l Z a0 hw [] fb3 fk3 [(.int (own_b ch0)), (.int (own_b ch1))] T3.heap n0 O_3 Vb3) hZ (own_w92 hw) (own_w85 hw) (by decide) (by decide)) (g := (mkF m 45 #[.val (.ref a0r), .val (.ref ca), .val (.int 0), .val (.int 2), .val .null, .val (.ref fb3)] [(.int 2), (.ref fb3), (.ref a0r)])) rfl (by rw [hml]; rfl) (argsL := [(.ref fb3), (.int 2)]) (rest := [(.ref a0r)]) (lenOf pd_3 rfl) rfl (by show 2 * 0 + _ ≤ _; exact Nat.le_of_eq rfl) (hb hby d3_45) (fun _ _ => ⟨rfl, rfl, (by decide : 1 + 0 ≤ _), (by decide : 2 + 0 ≤ _)⟩)
  dsimp only [Pt.U, Pt.locs, Pt.cells, Pt.slots] at X4 l4 y4 z4 st4 hQ4
  subst l4 y4 z4
  obtain ⟨rfl, Nq4, eh4⟩ := hQ4
  have N4 := Fr.app N3 Nq4
  refine Goes.step (B := T4.setTop (mkF m 48 #[.val (.ref a0r), .val (.ref ca), .val (.int 0), .val (.int 2), .val .null, .val (.ref fb3)] [(.int 0), (.ref a0r)])) st4 ?_
  have f5 := (Er.keep Kp3)
  have f6 := (Fr_coder.keep Kp3 nin0)
  obtain ⟨T7, h7, X7, e7, W7, st7⟩ := putFN X4 hx hZ hown (own_w26 hw) Via.refl eh4 f6 f5 (Or.inr ⟨(own_w22 hw), rfl, hnm⟩) (own_w7 hw) (ty := .byte) (v' := (.int 0)) (by decide) rfl (by decide) (g := (mkF m 48 #[.val (.ref a0r), .val (.ref ca), .val (.int 0), .val (.int 2), .val .null, .val (.ref fb3)] [(.int 0), (.ref a0r)])) rfl rfl (hb hby d3_48)
  have Fw7 := f6.same W7
  have N7 := Fr.snoc X7 N4 gr
  have O_7 := O_3.wr W7 gr
  have K_7 := K_3.wr W7 (Or.inl (List.mem_of_getElem? (i := 0) rfl))
  refine Goes.step (B := T7.setTop (mkF m 51 #[.val (.ref a0r), .val (.ref ca), .val (.int 0), .val (.int 2), .val .null, .val (.ref fb3)] [])) st7 ?_
  refine Goes.step (fun _ k => pw_aloadN X7.here hx (hb hby d3_51) rfl rfl _ (pw_aload X7.here hx (hb hby d3_52) rfl rfl _ k)) ?_
  have f8 := (f5.wr W7)
  have f9 := ((Fr_value.keep Kp3 nin0).other W7 (Or.inr (slot_ne (Or.inr (own_w21 hw)) (Or.inr (own_w22 hw)) (by decide) (t := (.array .byte)) (t' := .byte) (by decide) (by decide))))
  obtain ⟨T10, h10, X10, e10, W10, st10⟩ := putF X7 hx hZ hown (host := "") (Or.inl (own_w25 hw)) Via.refl e7 f9 f8 (Or.inr ⟨(own_w21 hw), rfl, hnm⟩) (own_w7 hw) (ty := (.array .byte)) (by decide) rfl rfl (g := (mkF m 54 #[.val (.ref a0r), .val (.ref ca), .val (.int 0), .val (.int 2), .val .null, .val (.ref fb3)] [(.ref fb3), (.ref a0r)])) rfl rfl (hb hby d3_54)
  have Fw10 := f9.same W10
  have N10 := Fr.snoc X10 N7 gr
  have O_10 := O_7.wr W10 gr
  have K_10 := K_7.wr W10 (Or.inl (List.mem_of_getElem? (i := 0) rfl))
  refine Goes.step (B := T10.setTop (mkF m 57 #[.val (.ref a0r), .val (.ref ca), .val (.int 0), .val (.int 2), .val .null, .val (.ref fb3)] [])) st10 ?_
  have f11 := (f8.wr W10)
  have f12 := (Fw7.other W10 (Or.inr (slot_ne (Or.inr (own_w22 hw)) (Or.inr (own_w21 hw)) (by decide) (t := .byte) (t' := (.array .byte)) (by decide) (by decide))))
  have f13 := ((Vb3.other W7 (Ne.symm ne_a0r_fb3)).other W10 (Ne.symm ne_a0r_fb3))
  exact Goes.retV X10 hx e10 Bd.returns hlk (hb hby d3_57) (by decide) (by decide) (⟨rfl, N10, K_10, f11, fb3, fk3, Fw10, f12, f13⟩)
theorem ef_rmSI_2 (m : MethodId) (x0 : Addr) (x1 : Addr) : entryFrame m #[(.ref x0), (.ref x1)] 2 = mkF m 0 #[.val (.ref x0), .val (.ref x1)] [] := by first | (simp [entryFrame, mkF, argsToLocals, Value.category]; done) | rfl
def QSI_2 (Z : State) (a0r : Addr) (ca : Addr) (kc : ClassId) (cs : Int32) (ch0 : Int32) (ch1 : Int32) (h0 : Heap) (n0 : Nat) (v : Option Value) (h : Heap) (L : List Loc) : Prop := v = none ∧ Fr n0 L ∧ Keep h0 h [a0r] ∧ Exa Z h a0r "java/lang/String" ∧ ∃ (vb : Addr) (kv : ClassId), Fld Z h a0r "java/lang/String" "value" "[B" (.ref vb) ∧ Fld Z h a0r "java/lang/String" "coder" "B" (.int (0 : Int32)) ∧ Arv Z h vb kv .byte (2 : Int32) [.int (own_b ch0), .int (own_b ch1)] (.int (0 : Int32))
set_option maxRecDepth 65536 in
set_option maxHeartbeats 40000000 in
theorem rmSI_2 (l : Launch) (Z : State) (a0 : Array Value) (hw : ∀ d ∈ tables_1, d.before a0 Z = true) (ws : List Jvm.Cond) (a0r : Addr) (ca : Addr) (kc : ClassId) (cs : Int32) (ch0 : Int32) (ch1 : Int32) (h0 : Heap) (n0 : Nat) (O0 : Old Z n0 h0) (Er : Exa Z h0 a0r "java/lang/String") (gr : n0 ≤ a0r) (Fr_value : Fld Z h0 a0r "java/lang/String" "value" "[B" .null) (Fr_coder : Fld Z h0 a0r "java/lang/String" "coder" "B" (.int (0 : Int32))) (Vc : Arv Z h0 ca kc .char (2 : Int32) [.int ch0, .int ch1] (.int (0 : Int32))) (Sc : Sta Z h0 "java/lang/String" "COMPACT_STRINGS" "Z" (.int cs)) (hcs : ¬ cs = (0 : Int32)) (hk0 : own_ok ch0) (hk1 : own_ok ch1) :
    MetFree l (⟨"java/lang/String", "<init>", "([C)V"⟩ : MethodName) (head1 (Jvm.Cond.code (⟨"java/lang/String", "<init>", "([C)V"⟩ : MethodName) jdk_42_method_3_code 2 none :: ws) ({ frames := 3, cells := 1, slots := 2, locals := 52 } : Room)) (fun a U => a = #[(.ref a0r), (.ref ca)] ∧ Z.Warmed39 U.vm ∧ U.heap = h0) (fun _ _ _ _ _ => True) (fun _ U o U' => ∃ v L, o = .returned v ∧ QSI_2 Z a0r ca kc cs ch0 ch1 h0 n0 v U'.heap L ∧ FrameEnd U o U' L ({ frames := 3, cells := 1, slots := 2, locals := 52 } : Room).cells ({ frames := 3, cells := 1, slots := 2, locals := 52 } : Room).slots) := by
  refine MetFree.of_bodySF (plainFor_of_name pn_String) hisR ?_
  intro p e s m args below meth c s₁ Bd hml0 hP hK
  obtain ⟨rfl, hZ, hh⟩ := hP
  have hx := Bd.exec
  have hby := Bd.bytes
  have hlk : meth.locks = false := BodyLoose.notSynchronized Bd
  have hml : c.maxLocals = 2 := hml0
  have hown : s.vm.findClass "java/lang/String" = some m.cls := findClass_of_methodNamed Bd.named
  have hnm := (name_of_methodNamed Bd.named Bd.method).1
  have X0 : Stand p l e ({ frames := 3, cells := 1, slots := 2, locals := 52 } : Room) s m #[(.ref a0r), (.ref ca)] below meth c s₁ [] 0 0 := Stand.of_body Bd
  have e0 : s₁.heap = h0 := by rw [← hh, Bd.state]; rfl
  have N0 := Fr.nil n0
  show Goes p e below s (QSI_2 Z a0r ca kc cs ch0 ch1 h0 n0) ({ frames := 3, cells := 1, slots := 2, locals := 52 } : Room).cells ({ frames := 3, cells := 1, slots := 2, locals := 52 } : Room).slots (s₁.setTop (entryFrame m #[(.ref a0r), (.ref ca)] 2))
  refine Goes.enter (g' := (mkF m 0 #[.val (.ref a0r), .val (.ref ca)] [])) (ef_rmSI_2 m a0r ca) ?_
  refine Goes.step (fun _ k => pw_aloadN X0.here hx (hb hby d2_0) rfl rfl _ (pw_aloadN X0.here hx (hb hby d2_1) rfl rfl _ (pw_iconst X0.here hx (v := (0 : Int32)) (hb hby d2_2) rfl _ (pw_aloadN X0.here hx (hb hby d2_3) rfl rfl _ k)))) ?_
  obtain ⟨c1, Ar1, -, Sz1, Nn1, -, -⟩ := id Vc
  have len1 := X0.arraylength hx (by rw [e0]; exact Ar1.1) (State.isArrayOf_alike hZ.alike Ar1.2.1) (g := (mkF m 4 #[.val (.ref a0r), .val (.ref ca)] [(.ref ca), (.int 0), (.ref ca), (.ref a0r)])) rfl rfl (hb hby d2_4)
  rw [len_of Sz1 Nn1] at len1
  refine Goes.step (B := s₁.setTop (mkF m 5 #[.val (.ref a0r), .val (.ref ca)] [(.int 2), (.int 0), (.ref ca), (.ref a0r)])) len1 ?_
  refine Goes.step (fun _ k => pw_aconstNull X0.here hx (hb hby d2_5) _ k) ?_
  obtain ⟨_, _, ⟨T2, L2, k2, n2⟩, -, X2, ⟨Lc2, hQ2, l2, y2, z2⟩, st2⟩ := X0.specialBack hx (y := (⟨"java/lang/String", "<init>", "([CIILjava/lang/Void;)V"⟩ : MethodName)) rfl hown (mvT hZ (own_w12 hw)) (mvT hZ (own_w13 hw)) (mvT hZ (own_w15 hw)) (by decide) (backOf (W := 0) (rmSJ_2 l Z a0 hw [] a0r ca kc cs ch0 ch1 h0 n0 O0 Er gr Fr_value Fr_coder Vc Sc hcs hk0 hk1) hZ (own_w15 hw) (own_w8 hw) (by decide) (by decide)) (g := (mkF m 6 #[.val (.ref a0r), .val (.ref ca)] [.null, (.int 2), (.int 0), (.ref ca), (.ref a0r)])) rfl (by rw [hml]; rfl) (Steps.refl _) (a := a0r) (argsL := [(.ref ca), (.int 0), (.int 2), .null]) (rest := []) (lenOf pd_0 rfl) rfl (by show 2 * 0 + _ ≤ _; exact Nat.le_of_eq rfl) (hb hby d2_6) (fun _ _ => ⟨rfl, e0, (by decide : 0 + 1 ≤ _), (by decide : 0 + 2 ≤ _)⟩)
  dsimp only [Pt.U, Pt.locs, Pt.cells, Pt.slots] at X2 l2 y2 z2 st2 hQ2
  subst l2 y2 z2
  obtain ⟨rfl, Nq2, Kp2, Ex2, sv2, sk2, Fsv2, Fsc2, Vsv2⟩ := hQ2
  have O_2 := O0.keep Kp2 (allS gr all0)
  have K_2 := (Keep.refl h0 [a0r]).trans Kp2 (allS (P := fun x => x ∈ _ ∨ _) (Or.inl (List.mem_of_getElem? (i := 0) rfl)) all0)
  have N2 := Fr.app N0 Nq2
  refine Goes.via (B := T2.setTop (mkF m 9 #[.val (.ref a0r), .val (.ref ca)] [])) st2 ?_
  exact Goes.retV X2 hx rfl Bd.returns hlk (hb hby d2_9) (by decide) (by decide) (⟨rfl, N2, K_2, Ex2, sv2, sk2, Fsv2, Fsc2, Vsv2⟩)
theorem ef_rmC5_3 (m : MethodId) (x0 : Addr) (x1 : Int32) (x2 : Addr) (x3 : Int32) (x4 : Int32) : entryFrame m #[(.ref x0), (.int x1), (.ref x2), (.int x3), (.int x4)] 7 = mkF m 0 #[.val (.ref x0), .val (.int x1), .val (.ref x2), .val (.int x3), .val (.int x4), .unset, .unset] [] := by first | (simp [entryFrame, mkF, argsToLocals, Value.category]; done) | rfl
def QC5_3 (Z : State) (ca : Addr) (kc : ClassId) (bb : Addr) (kb : ClassId) (ch0 : Int32) (ch1 : Int32) (ch2 : Int32) (h0 : Heap) (n0 : Nat) (v : Option Value) (h : Heap) (L : List Loc) : Prop := v = some (.int (3 : Int32)) ∧ Fr n0 L ∧ Keep h0 h [bb] ∧ Arv Z h bb kb .byte (3 : Int32) [.int (own_b ch0), .int (own_b ch1), .int (own_b ch2)] (.int (0 : Int32))
set_option maxRecDepth 65536 in
set_option maxHeartbeats 40000000 in
theorem rmC5_3 (l : Launch) (Z : State) (a0 : Array Value) (hw : ∀ d ∈ tables_1, d.before a0 Z = true) (ws : List Jvm.Cond) (ca : Addr) (kc : ClassId) (bb : Addr) (kb : ClassId) (ch0 : Int32) (ch1 : Int32) (ch2 : Int32) (h0 : Heap) (n0 : Nat) (O0 : Old Z n0 h0) (Vc : Arv Z h0 ca kc .char (3 : Int32) [.int ch0, .int ch1, .int ch2] (.int (0 : Int32))) (Vb : Arv Z h0 bb kb .byte (3 : Int32) [.int (0 : Int32), .int (0 : Int32), .int (0 : Int32)] (.int (0 : Int32))) (gb : n0 ≤ bb) (ncb : ca ≠ bb) (hk0 : own_ok ch0) (hk1 : own_ok ch1) (hk2 : own_ok ch2) :
    MetFree l (⟨"java/lang/StringUTF16", "compress", "([CI[BII)I"⟩ : MethodName) (head1 (Jvm.Cond.code (⟨"java/lang/StringUTF16", "compress", "([CI[BII)I"⟩ : MethodName) jdk_52_method_21_code 7 (some .int) :: ws) ({ frames := 0, cells := 0, slots := 0, locals := 0 } : Room)) (fun a U => a = #[(.ref ca), (.int 0), (.ref bb), (.int 0), (.int 3)] ∧ Z.Warmed39 U.vm ∧ U.heap = h0) (fun _ _ _ _ _ => True) (fun _ U o U' => ∃ v L, o = .returned v ∧ QC5_3 Z ca kc bb kb ch0 ch1 ch2 h0 n0 v U'.heap L ∧ FrameEnd U o U' L ({ frames := 0, cells := 0, slots := 0, locals := 0 } : Room).cells ({ frames := 0, cells := 0, slots := 0, locals := 0 } : Room).slots) := by
  refine MetFree.of_bodySF (plainFor_of_name pn_StringUTF16) hisR ?_
  intro p e s m args below meth c s₁ Bd hml0 hP hK
  obtain ⟨rfl, hZ, hh⟩ := hP
  have hx := Bd.exec
  have hby := Bd.bytes
  have hlk : meth.locks = false := BodyLoose.notSynchronized Bd
  have hml : c.maxLocals = 7 := hml0
  have hown : s.vm.findClass "java/lang/StringUTF16" = some m.cls := findClass_of_methodNamed Bd.named
  have hnm := (name_of_methodNamed Bd.named Bd.method).1
  have X0 : Stand p l e ({ frames := 0, cells := 0, slots := 0, locals := 0 } : Room) s m #[(.ref ca), (.int 0), (.ref bb), (.int 0), (.int 3)] below meth c s₁ [] 0 0 := Stand.of_body Bd
  have e0 : s₁.heap = h0 := by rw [← hh, Bd.state]; rfl
  have N0 := Fr.nil n0
  show Goes p e below s (QC5_3 Z ca kc bb kb ch0 ch1 ch2 h0 n0) ({ frames := 0, cells := 0, slots := 0, locals := 0 } : Room).cells ({ frames := 0, cells := 0, slots := 0, locals := 0 } : Room).slots (s₁.setTop (entryFrame m #[(.ref ca), (.int 0), (.ref bb), (.int 0), (.int 3)] 7))
  refine Goes.enter (g' := (mkF m 0 #[.val (.ref ca), .val (.int 0), .val (.ref bb), .val (.int 0), .val (.int 3), .unset, .unset] [])) (ef_rmC5_3 m ca ((0 : Int32)) bb ((0 : Int32)) ((3 : Int32))) ?_
  refine Goes.step (fun _ k => pw_iconst X0.here hx (v := (0 : Int32)) (hb hby d19_0) rfl _ (pw_istore X0.here hx (l' := #[.val (.ref ca), .val (.int 0), .val (.ref bb), .val (.int 0), .val (.int 3), .val (.int 0), .unset]) (hb hby d19_1) rfl _ (pw_iload X0.here hx (hb hby d19_3) rfl _ (pw_iload X0.here hx (hb hby d19_5) rfl _ (pw_icmpNo X0.here hx (hb hby d19_7) (tlt (by decide)).2.1 _ (pw_aloadN X0.here hx (hb hby d19_10) rfl rfl _ k)))))) ?_
  refine Goes.step (fun _ k => pw_iloadN X0.here hx (hb hby d19_11) rfl _ k) ?_
  obtain ⟨c1, Ar1, -, Sz1, Nn1, Hs1, -⟩ := id Vc
  have hin1 : ¬ ((0 : Int32) < 0 ∨ c1.slots.size ≤ ((0 : Int32)).toNatClampNeg) := inb_of Sz1 ⟨by decide, by decide⟩
  refine Goes.step (B := s₁.setTop (mkF m 13 #[.val (.ref ca), .val (.int 0), .val (.ref bb), .val (.int 0), .val (.int 3), .val (.int 0), .unset] [(.int ch0)])) (X0.caload hx (j := (0 : Int32)) (v := (.int ch0)) (by rw [e0]; exact Ar1.1) (State.isArrayOf_alike hZ.alike Ar1.2.1) Ar1.2.2 hin1 (Has.at Hs1 hin1 rfl) (g := (mkF m 12 #[.val (.ref ca), .val (.int 0), .val (.ref bb), .val (.int 0), .val (.int 3), .val (.int 0), .unset] [(.int 0), (.ref ca)])) rfl rfl (hb hby d19_12)) ?_
  refine Goes.step (fun _ k => pw_istore X0.here hx (l' := #[.val (.ref ca), .val (.int 0), .val (.ref bb), .val (.int 0), .val (.int 3), .val (.int 0), .val (.int ch0)]) (hb hby d19_13) rfl _ (pw_iload X0.here hx (hb hby d19_15) rfl _ (pw_sipush X0.here hx (v := (255 : Int32)) (hb hby d19_17) rfl _ (pw_icmpYes X0.here hx (pc' := 26) (hb hby d19_20) (flt (own_le hk0)).2.2.2 (by decide) (by decide) _ (pw_aloadN X0.here hx (hb hby d19_26) rfl rfl _ (pw_iloadN X0.here hx (hb hby d19_27) rfl _ k)))))) ?_
  refine Goes.step (fun _ k => pw_iload X0.here hx (hb hby d19_28) rfl _ k) ?_
  refine Goes.step (B := s₁.setTop (mkF m 31 #[.val (.ref ca), .val (.int 0), .val (.ref bb), .val (.int 0), .val (.int 3), .val (.int 0), .val (.int ch0)] [(.int (ch0.toInt8.toInt32)), (.int 0), (.ref bb)])) (fun _ k => XS.i2b X0.here hx rfl (hb hby d19_30) rfl k) ?_
  obtain ⟨c2, Ar2, q2, Sz2, Nn2, Hs2, Gs2⟩ := id Vb
  have hin2 : ¬ ((0 : Int32) < 0 ∨ c2.slots.size ≤ ((0 : Int32)).toNatClampNeg) := inb_of Sz2 ⟨by decide, by decide⟩
  obtain ⟨T2, h2, X2, e2, W2, st2⟩ := stB X0 hx hZ e0 Ar2 (j := (0 : Int32)) hin2 (g := (mkF m 31 #[.val (.ref ca), .val (.int 0), .val (.ref bb), .val (.int 0), .val (.int 3), .val (.int 0), .val (.int ch0)] [(.int (ch0.toInt8.toInt32)), (.int 0), (.ref bb)])) rfl rfl (hb hby d19_31)
  have V2 : Arv Z h2 bb kb .byte (3 : Int32) [(.int (nar .byte (ch0.toInt8.toInt32))), (.int 0), (.int 0)] (.int 0) := Arv.set Ar2 q2 Sz2 Nn2 Hs2 Gs2 (fits_nar_byte _) W2 0 rfl (Nat.le_of_ble_eq_true rfl)
  have N2 := Fr.snoc X2 N0 gb
  have O_2 := O0.wr W2 gb
  have K_2 := (Keep.refl h0 [bb]).wr W2 (Or.inl (List.mem_of_getElem? (i := 0) rfl))
  refine Goes.step (B := T2.setTop (mkF m 32 #[.val (.ref ca), .val (.int 0), .val (.ref bb), .val (.int 0), .val (.int 3), .val (.int 0), .val (.int ch0)] [])) st2 ?_
  refine Goes.step (fun _ k => pw_iinc X2.here hx (l' := #[.val (.ref ca), .val (.int 1), .val (.ref bb), .val (.int 0), .val (.int 3), .val (.int 0), .val (.int ch0)]) (hb hby d19_32) rfl rfl _ (pw_iinc X2.here hx (l' := #[.val (.ref ca), .val (.int 1), .val (.ref bb), .val (.int 1), .val (.int 3), .val (.int 0), .val (.int ch0)]) (hb hby d19_35) rfl rfl _ (pw_iinc X2.here hx (l' := #[.val (.ref ca), .val (.int 1), .val (.ref bb), .val (.int 1), .val (.int 3), .val (.int 1), .val (.int ch0)]) (hb hby d19_38) rfl rfl _ (pw_goto X2.here hx (pc' := 3) (hb hby d19_41) (by decide) (by decide) _ (pw_iload X2.here hx (hb hby d19_3) rfl _ (pw_iload X2.here hx (hb hby d19_5) rfl _ k)))))) ?_
  refine Goes.step (fun _ k => pw_icmpNo X2.here hx (hb hby d19_7) (tlt (by decide)).2.1 _ (pw_aloadN X2.here hx (hb hby d19_10) rfl rfl _ (pw_iloadN X2.here hx (hb hby d19_11) rfl _ k))) ?_
  have f3 := (Vc.other W2 ncb)
  obtain ⟨c4, Ar4, -, Sz4, Nn4, Hs4, -⟩ := id f3
  have hin4 : ¬ ((1 : Int32) < 0 ∨ c4.slots.size ≤ ((1 : Int32)).toNatClampNeg) := inb_of Sz4 ⟨by decide, by decide⟩
  refine Goes.step (B := T2.setTop (mkF m 13 #[.val (.ref ca), .val (.int 1), .val (.ref bb), .val (.int 1), .val (.int 3), .val (.int 1), .val (.int ch0)] [(.int ch1)])) (X2.caload hx (j := (1 : Int32)) (v := (.int ch1)) (by rw [e2]; exact Ar4.1) (State.isArrayOf_alike hZ.alike Ar4.2.1) Ar4.2.2 hin4 (Has.at Hs4 hin4 rfl) (g := (mkF m 12 #[.val (.ref ca), .val (.int 1), .val (.ref bb), .val (.int 1), .val (.int 3), .val (.int 1), .val (.int ch0)] [(.int 1), (.ref ca)])) rfl rfl (hb hby d19_12)) ?_
  refine Goes.step (fun _ k => pw_istore X2.here hx (l' := #[.val (.ref ca), .val (.int 1), .val (.ref bb), .val (.int 1), .val (.int 3), .val (.int 1), .val (.int ch1)]) (hb hby d19_13) rfl _ (pw_iload X2.here hx (hb hby d19_15) rfl _ (pw_sipush X2.here hx (v := (255 : Int32)) (hb hby d19_17) rfl _ (pw_icmpYes X2.here hx (pc' := 26) (hb hby d19_20) (flt (own_le hk1)).2.2.2 (by decide) (by decide) _ (pw_aloadN X2.here hx (hb hby d19_26) rfl rfl _ (pw_iloadN X2.here hx (hb hby d19_27) rfl _ k)))))) ?_
  refine Goes.step (fun _ k => pw_iload X2.here hx (hb hby d19_28) rfl _ k) ?_
  refine Goes.step (B := T2.setTop (mkF m 31 #[.val (.ref ca), .val (.int 1), .val (.ref bb), .val (.int 1), .val (.int 3), .val (.int 1), .val (.int ch1)] [(.int (ch1.toInt8.toInt32)), (.int 1), (.ref bb)])) (fun _ k => XS.i2b X2.here hx rfl (hb hby d19_30) rfl k) ?_
  obtain ⟨c5, Ar5, q5, Sz5, Nn5, Hs5, Gs5⟩ := id V2
  have hin5 : ¬ ((1 : Int32) < 0 ∨ c5.slots.size ≤ ((1 : Int32)).toNatClampNeg) := inb_of Sz5 ⟨by decide, by decide⟩
  obtain ⟨T5, h5, X5, e5, W5, st5⟩ := stB X2 hx hZ e2 Ar5 (j := (1 : Int32)) hin5 (g := (mkF m 31 #[.val (.ref ca), .val (.int 1), .val (.ref bb), .val (.int 1), .val (.int 3), .val (.int 1), .val (.int ch1)] [(.int (ch1.toInt8.toInt32)), (.int 1), (.ref bb)])) rfl rfl (hb hby d19_31)
  have V5 : Arv Z h5 bb kb .byte (3 : Int32) [(.int (nar .byte (ch0.toInt8.toInt32))), (.int (nar .byte (ch1.toInt8.toInt32))), (.int 0)] (.int 0) := Arv.set Ar5 q5 Sz5 Nn5 Hs5 Gs5 (fits_nar_byte _) W5 1 rfl (Nat.le_of_ble_eq_true rfl)
  have N5 := Fr.snoc X5 N2 gb
  have O_5 := O_2.wr W5 gb
  have K_5 := K_2.wr W5 (Or.inl (List.mem_of_getElem? (i := 0) rfl))
  refine Goes.step (B := T5.setTop (mkF m 32 #[.val (.ref ca), .val (.int 1), .val (.ref bb), .val (.int 1), .val (.int 3), .val (.int 1), .val (.int ch1)] [])) st5 ?_
  refine Goes.step (fun _ k => pw_iinc X5.here hx (l' := #[.val (.ref ca), .val (.int 2), .val (.ref bb), .val (.int 1), .val (.int 3), .val (.int 1), .val (.int ch1)]) (hb hby d19_32) rfl rfl _ (pw_iinc X5.here hx (l' := #[.val (.ref ca), .val (.int 2), .val (.ref bb), .val (.int 2), .val (.int 3), .val (.int 1), .val (.int ch1)]) (hb hby d19_35) rfl rfl _ (pw_iinc X5.here hx (l' := #[.val (.ref ca), .val (.int 2), .val (.ref bb), .val (.int 2), .val (.int 3), .val (.int 2), .val (.int ch1)]) (hb hby d19_38) rfl rfl _ (pw_goto X5.here hx (pc' := 3) (hb hby d19_41) (by decide) (by decide) _ (pw_iload X5.here hx (hb hby d19_3) rfl _ (pw_iload X5.here hx (hb hby d19_5) rfl _ k)))))) ?_
  refine Goes.step (fun _ k => pw_icmpNo X5.here hx (hb hby d19_7) (tlt (by decide)).2.1 _ (pw_aloadN X5.here hx (hb hby d19_10) rfl rfl _ (pw_iloadN X5.here hx (hb hby d19_11) rfl _ k))) ?_
  have f6 := (f3.other W5 ncb)
  obtain ⟨c7, Ar7, -, Sz7, Nn7, Hs7, -⟩ := id f6
  have hin7 : ¬ ((2 : Int32) < 0 ∨ c7.slots.size ≤ ((2 : Int32)).toNatClampNeg) := inb_of Sz7 ⟨by decide, by decide⟩
  refine Goes.step (B := T5.setTop (mkF m 13 #[.val (.ref ca), .val (.int 2), .val (.ref bb), .val (.int 2), .val (.int 3), .val (.int 2), .val (.int ch1)] [(.int ch2)])) (X5.caload hx (j := (2 : Int32)) (v := (.int ch2)) (by rw [e5]; exact Ar7.1) (State.isArrayOf_alike hZ.alike Ar7.2.1) Ar7.2.2 hin7 (Has.at Hs7 hin7 rfl) (g := (mkF m 12 #[.val (.ref ca), .val (.int 2), .val (.ref bb), .val (.int 2), .val (.int 3), .val (.int 2), .val (.int ch1)] [(.int 2), (.ref ca)])) rfl rfl (hb hby d19_12)) ?_
  refine Goes.step (fun _ k => pw_istore X5.here hx (l' := #[.val (.ref ca), .val (.int 2), .val (.ref bb), .val (.int 2), .val (.int 3), .val (.int 2), .val (.int ch2)]) (hb hby d19_13) rfl _ (pw_iload X5.here hx (hb hby d19_15) rfl _ (pw_sipush X5.here hx (v := (255 : Int32)) (hb hby d19_17) rfl _ (pw_icmpYes X5.here hx (pc' := 26) (hb hby d19_20) (flt (own_le hk2)).2.2.2 (by decide) (by decide) _ (pw_aloadN X5.here hx (hb hby d19_26) rfl rfl _ (pw_iloadN X5.here hx (hb hby d19_27) rfl _ k)))))) ?_
  refine Goes.step (fun _ k => pw_iload X5.here hx (hb hby d19_28) rfl _ k) ?_
  refine Goes.step (B := T5.setTop (mkF m 31 #[.val (.ref ca), .val (.int 2), .val (.ref bb), .val (.int 2), .val (.int 3), .val (.int 2), .val (.int ch2)] [(.int (ch2.toInt8.toInt32)), (.int 2), (.ref bb)])) (fun _ k => XS.i2b X5.here hx rfl (hb hby d19_30) rfl k) ?_
  obtain ⟨c8, Ar8, q8, Sz8, Nn8, Hs8, Gs8⟩ := id V5
  have hin8 : ¬ ((2 : Int32) < 0 ∨ c8.slots.size ≤ ((2 : Int32)).toNatClampNeg) := inb_of Sz8 ⟨by decide, by decide⟩
  obtain ⟨T8, h8, X8, e8, W8, st8⟩ := stB X5 hx hZ e5 Ar8 (j := (2 : Int32)) hin8 (g := (mkF m 31 #[.val (.ref ca), .val (.int 2), .val (.ref bb), .val (.int 2), .val (.int 3), .val (.int 2), .val (.int ch2)] [(.int (ch2.toInt8.toInt32)), (.int 2), (.ref bb)])) rfl rfl (hb hby d19_31)
  have V8 : Arv Z h8 bb kb .byte (3 : Int32) [(.int (nar .byte (ch0.toInt8.toInt32))), (.int (nar .byte (ch1.toInt8.toInt32))), (.int (nar .byte (ch2.toInt8.toInt32)))] (.int 0) := Arv.set Ar8 q8 Sz8 Nn8 Hs8 Gs8 (fits_nar_byte _) W8 2 rfl (Nat.le_of_ble_eq_true rfl)
  have N8 := Fr.snoc X8 N5 gb
  have O_8 := O_5.wr W8 gb
  have K_8 := K_5.wr W8 (Or.inl (List.mem_of_getElem? (i := 0) rfl))
  refine Goes.step (B := T8.setTop (mkF m 32 #[.val (.ref ca), .val (.int 2), .val (.ref bb), .val (.int 2), .val (.int 3), .val (.int 2), .val (.int ch2)] [])) st8 ?_
  refine Goes.step (fun _ k => pw_iinc X8.here hx (l' := #[.val (.ref ca), .val (.int 3), .val (.ref bb), .val (.int 2), .val (.int 3), .val (.int 2), .val (.int ch2)]) (hb hby d19_32) rfl rfl _ (pw_iinc X8.here hx (l' := #[.val (.ref ca), .val (.int 3), .val (.ref bb), .val (.int 3), .val (.int 3), .val (.int 2), .val (.int ch2)]) (hb hby d19_35) rfl rfl _ (pw_iinc X8.here hx (l' := #[.val (.ref ca), .val (.int 3), .val (.ref bb), .val (.int 3), .val (.int 3), .val (.int 3), .val (.int ch2)]) (hb hby d19_38) rfl rfl _ (pw_goto X8.here hx (pc' := 3) (hb hby d19_41) (by decide) (by decide) _ (pw_iload X8.here hx (hb hby d19_3) rfl _ (pw_iload X8.here hx (hb hby d19_5) rfl _ k)))))) ?_
  refine Goes.step (fun _ k => pw_icmpYes X8.here hx (pc' := 44) (hb hby d19_7) (flt (by decide)).2.1 (by decide) (by decide) _ (pw_iload X8.here hx (hb hby d19_44) rfl _ k)) ?_
  exact Goes.retI X8 hx e8 Bd.returns hlk (hb hby d19_46) (by decide) (by decide) (⟨rfl, N8, K_8, V8⟩)
theorem ef_rmC3_3 (m : MethodId) (x0 : Addr) (x1 : Int32) (x2 : Int32) : entryFrame m #[(.ref x0), (.int x1), (.int x2)] 6 = mkF m 0 #[.val (.ref x0), .val (.int x1), .val (.int x2), .unset, .unset, .unset] [] := by first | (simp [entryFrame, mkF, argsToLocals, Value.category]; done) | rfl
def QC3_3 (Z : State) (ca : Addr) (kc : ClassId) (ch0 : Int32) (ch1 : Int32) (ch2 : Int32) (h0 : Heap) (n0 : Nat) (v : Option Value) (h : Heap) (L : List Loc) : Prop := ∃ (b : Addr) (k : ClassId), v = some (.ref b) ∧ Fr n0 L ∧ Keep h0 h [] ∧ n0 ≤ b ∧ h0.size ≤ b ∧ Arv Z h b k .byte (3 : Int32) [(.int (own_b ch0)), (.int (own_b ch1)), (.int (own_b ch2))] (.int 0)
set_option maxRecDepth 65536 in
set_option maxHeartbeats 40000000 in
theorem rmC3_3 (l : Launch) (Z : State) (a0 : Array Value) (hw : ∀ d ∈ tables_1, d.before a0 Z = true) (ws : List Jvm.Cond) (ca : Addr) (kc : ClassId) (ch0 : Int32) (ch1 : Int32) (ch2 : Int32) (h0 : Heap) (n0 : Nat) (O0 : Old Z n0 h0) (Vc : Arv Z h0 ca kc .char (3 : Int32) [.int ch0, .int ch1, .int ch2] (.int (0 : Int32))) (hk0 : own_ok ch0) (hk1 : own_ok ch1) (hk2 : own_ok ch2) :
    MetFree l (⟨"java/lang/StringUTF16", "compress", "([CII)[B"⟩ : MethodName) (head1 (Jvm.Cond.code (⟨"java/lang/StringUTF16", "compress", "([CII)[B"⟩ : MethodName) jdk_52_method_16_code 6 (some (.array .byte)) :: ws) ({ frames := 1, cells := 1, slots := 3, locals := 18 } : Room)) (fun a U => a = #[(.ref ca), (.int 0), (.int 3)] ∧ Z.Warmed39 U.vm ∧ U.heap = h0) (fun _ _ _ _ _ => True) (fun _ U o U' => ∃ v L, o = .returned v ∧ QC3_3 Z ca kc ch0 ch1 ch2 h0 n0 v U'.heap L ∧ FrameEnd U o U' L ({ frames := 1, cells := 1, slots := 3, locals := 18 } : Room).cells ({ frames := 1, cells := 1, slots := 3, locals := 18 } : Room).slots) := by
  refine MetFree.of_bodySF (plainFor_of_name pn_StringUTF16) hisR ?_
  intro p e s m args below meth c s₁ Bd hml0 hP hK
  obtain ⟨rfl, hZ, hh⟩ := hP
  have hx := Bd.exec
  have hby := Bd.bytes
  have hlk : meth.locks = false := BodyLoose.notSynchronized Bd
  have hml : c.maxLocals = 6 := hml0
  have hown : s.vm.findClass "java/lang/StringUTF16" = some m.cls := findClass_of_methodNamed Bd.named
  have hnm := (name_of_methodNamed Bd.named Bd.method).1
  have X0 : Stand p l e ({ frames := 1, cells := 1, slots := 3, locals := 18 } : Room) s m #[(.ref ca), (.int 0), (.int 3)] below meth c s₁ [] 0 0 := Stand.of_body Bd
  have e0 : s₁.heap = h0 := by rw [← hh, Bd.state]; rfl
  have N0 := Fr.nil n0
  show Goes p e below s (QC3_3 Z ca kc ch0 ch1 ch2 h0 n0) ({ frames := 1, cells := 1, slots := 3, locals := 18 } : Room).cells ({ frames := 1, cells := 1, slots := 3, locals := 18 } : Room).slots (s₁.setTop (entryFrame m #[(.ref ca), (.int 0), (.int 3)] 6))
  refine Goes.enter (g' := (mkF m 0 #[.val (.ref ca), .val (.int 0), .val (.int 3), .unset, .unset, .unset] [])) (ef_rmC3_3 m ca ((0 : Int32)) ((3 : Int32))) ?_
  refine Goes.step (fun _ k => pw_iloadN X0.here hx (hb hby d18_0) rfl _ k) ?_
  obtain ⟨T1, h1, k1, X1, e1, E1, A1, st1⟩ := newP (aty := .byte) X0 hx hZ (own_w20 hw) e0 (g := (mkF m 1 #[.val (.ref ca), .val (.int 0), .val (.int 3), .unset, .unset, .unset] [(.int 3)])) rfl (hb hby d18_1) rfl (by decide) (cap := 3) (by decide) (by decide) (by decide) (by decide)
  obtain ⟨b1, g1⟩ : ∃ z, z = h0.size := ⟨_, rfl⟩
  rw [← g1] at A1 st1
  have ne_ca_b1 : ca ≠ b1 := Nat.ne_of_lt (Nat.lt_of_lt_of_le Vc.lt (Nat.le_of_eq g1.symm))
  have g_b1 : n0 ≤ b1 := Nat.le_trans (own_z O0) (Nat.le_of_eq g1.symm)
  have O_1 := O0.ext E1
  have sz_b1 : h0.size ≤ b1 := Nat.le_trans (Keep.refl h0 []).1 (Nat.le_of_eq g1.symm)
  have K_1 := (Keep.refl h0 []).ext E1
  have V_b1 : Arv Z h1 b1 k1 .byte (3 : Int32) [(.int 0), (.int 0), (.int 0)] (.int 0) := (Arv.new A1 (by decide)).pad (pad_rep [] (.int 0) 3)
  refine Goes.step (B := T1.setTop (mkF m 3 #[.val (.ref ca), .val (.int 0), .val (.int 3), .unset, .unset, .unset] [(.ref b1)])) st1 ?_
  refine Goes.step (fun _ k => pw_astoreN X1.here hx (l' := #[.val (.ref ca), .val (.int 0), .val (.int 3), .val (.ref b1), .unset, .unset]) (hb hby d18_3) rfl rfl _ (pw_aloadN X1.here hx (hb hby d18_4) rfl rfl _ (pw_iloadN X1.here hx (hb hby d18_5) rfl _ (pw_aloadN X1.here hx (hb hby d18_6) rfl rfl _ (pw_iconst X1.here hx (v := (0 : Int32)) (hb hby d18_7) rfl _ (pw_iloadN X1.here hx (hb hby d18_8) rfl _ k)))))) ?_
  have f3 := (Vc.ext E1)
  obtain ⟨_, _, ⟨T2, L2, k2, n2⟩, -, X2, ⟨Lc2, hQ2, l2, y2, z2⟩, st2⟩ := Jvm.LawKit.callS X1 hx (y := (⟨"java/lang/StringUTF16", "compress", "([CI[BII)I"⟩ : MethodName)) hown (mvT hZ (own_w87 hw)) (mvT hZ (own_w88 hw)) (mvT hZ (own_w85 hw)) (mvT hZ (own_w89 hw)) (by decide) (backOf (W := 0) (rmC5_3 l Z a0 hw [] ca kc b1 k1 ch0 ch1 ch2 h1 n0 O_1 f3 V_b1 g_b1 ne_ca_b1 hk0 hk1 hk2) hZ (own_w89 hw) (own_w85 hw) (by decide) (by decide)) (g := (mkF m 9 #[.val (.ref ca), .val (.int 0), .val (.int 3), .val (.ref b1), .unset, .unset] [(.int 3), (.int 0), (.ref b1), (.int 0), (.ref ca)])) rfl (by rw [hml]; rfl) (argsL := [(.ref ca), (.int 0), (.ref b1), (.int 0), (.int 3)]) (rest := []) (lenOf pd_1 rfl) rfl (by show 2 * 0 + _ ≤ _; exact Nat.le_of_eq rfl) (hb hby d18_9) (fun _ _ => ⟨rfl, e1, (by decide : 1 + 0 ≤ _), (by decide : 3 + 0 ≤ _)⟩)
  dsimp only [Pt.U, Pt.locs, Pt.cells, Pt.slots] at X2 l2 y2 z2 st2 hQ2
  subst l2 y2 z2
  obtain ⟨rfl, Nq2, Kp2, Vq2⟩ := hQ2
  have O_2 := O_1.keep Kp2 (allS g_b1 all0)
  have K_2 := K_1.trans Kp2 (allS (P := fun x => x ∈ _ ∨ _) (Or.inr sz_b1) all0)
  have N2 := Fr.app N0 Nq2
  refine Goes.step (B := T2.setTop (mkF m 12 #[.val (.ref ca), .val (.int 0), .val (.int 3), .val (.ref b1), .unset, .unset] [(.int 3)])) st2 ?_
  refine Goes.step (fun _ k => pw_istore X2.here hx (l' := #[.val (.ref ca), .val (.int 0), .val (.int 3), .val (.ref b1), .val (.int 3), .unset]) (hb hby d18_12) rfl _ (pw_iload X2.here hx (hb hby d18_14) rfl _ (pw_iloadN X2.here hx (hb hby d18_16) rfl _ (pw_icmpYes X2.here hx (pc' := 57) (hb hby d18_17) (teq (by decide)).1 (by decide) (by decide) _ (pw_aloadN X2.here hx (hb hby d18_57) rfl rfl _ k))))) ?_
  exact Goes.retA X2 hx rfl Bd.returns rfl rfl hlk (hb hby d18_58) (by decide) (by decide) (⟨b1, k1, rfl, N2, K_2, g_b1, sz_b1, Vq2⟩)
theorem ef_rmCF_3 (m : MethodId) (x0 : Addr) (x1 : Int32) : entryFrame m #[(.ref x0), (.int x1)] 2 = mkF m 0 #[.val (.ref x0), .val (.int x1)] [] := by first | (simp [entryFrame, mkF, argsToLocals, Value.category]; done) | rfl
def QCF_3 (Z : State) (bb : Addr) (kb : ClassId) (ls : List Value) (h0 : Heap) (n0 : Nat) (v : Option Value) (h : Heap) (L : List Loc) : Prop := v = some (.int 0) ∧ Fr n0 L ∧ h = h0
set_option maxRecDepth 65536 in
set_option maxHeartbeats 40000000 in
theorem rmCF_3 (l : Launch) (Z : State) (a0 : Array Value) (hw : ∀ d ∈ tables_1, d.before a0 Z = true) (ws : List Jvm.Cond) (bb : Addr) (kb : ClassId) (ls : List Value) (h0 : Heap) (n0 : Nat) (O0 : Old Z n0 h0) (Vb : Arv Z h0 bb kb .byte (3 : Int32) ls (.int (0 : Int32))) :
    MetFree l (⟨"java/lang/StringUTF16", "coderFromArrayLen", "([BI)B"⟩ : MethodName) (head1 (Jvm.Cond.code (⟨"java/lang/StringUTF16", "coderFromArrayLen", "([BI)B"⟩ : MethodName) jdk_52_method_15_code 2 (some .byte) :: ws) ({ frames := 0, cells := 0, slots := 0, locals := 0 } : Room)) (fun a U => a = #[(.ref bb), (.int 3)] ∧ Z.Warmed39 U.vm ∧ U.heap = h0) (fun _ _ _ _ _ => True) (fun _ U o U' => ∃ v L, o = .returned v ∧ QCF_3 Z bb kb ls h0 n0 v U'.heap L ∧ FrameEnd U o U' L ({ frames := 0, cells := 0, slots := 0, locals := 0 } : Room).cells ({ frames := 0, cells := 0, slots := 0, locals := 0 } : Room).slots) := by
  refine MetFree.of_bodySF (plainFor_of_name pn_StringUTF16) hisR ?_
  intro p e s m args below meth c s₁ Bd hml0 hP hK
  obtain ⟨rfl, hZ, hh⟩ := hP
  have hx := Bd.exec
  have hby := Bd.bytes
  have hlk : meth.locks = false := BodyLoose.notSynchronized Bd
  have hml : c.maxLocals = 2 := hml0
  have hown : s.vm.findClass "java/lang/StringUTF16" = some m.cls := findClass_of_methodNamed Bd.named
  have hnm := (name_of_methodNamed Bd.named Bd.method).1
  have X0 : Stand p l e ({ frames := 0, cells := 0, slots := 0, locals := 0 } : Room) s m #[(.ref bb), (.int 3)] below meth c s₁ [] 0 0 := Stand.of_body Bd
  have e0 : s₁.heap = h0 := by rw [← hh, Bd.state]; rfl
  have N0 := Fr.nil n0
  show Goes p e below s (QCF_3 Z bb kb ls h0 n0) ({ frames := 0, cells := 0, slots := 0, locals := 0 } : Room).cells ({ frames := 0, cells := 0, slots := 0, locals := 0 } : Room).slots (s₁.setTop (entryFrame m #[(.ref bb), (.int 3)] 2))
  refine Goes.enter (g' := (mkF m 0 #[.val (.ref bb), .val (.int 3)] [])) (ef_rmCF_3 m bb ((3 : Int32))) ?_
  refine Goes.step (fun _ k => pw_iloadN X0.here hx (hb hby d20_0) rfl _ (pw_aloadN X0.here hx (hb hby d20_1) rfl rfl _ k)) ?_
  obtain ⟨c1, Ar1, -, Sz1, Nn1, -, -⟩ := id Vb
  have len1 := X0.arraylength hx (by rw [e0]; exact Ar1.1) (State.isArrayOf_alike hZ.alike Ar1.2.1) (g := (mkF m 2 #[.val (.ref bb), .val (.int 3)] [(.ref bb), (.int 3)])) rfl rfl (hb hby d20_2)
  rw [len_of Sz1 Nn1] at len1
  refine Goes.step (B := s₁.setTop (mkF m 3 #[.val (.ref bb), .val (.int 3)] [(.int 3), (.int 3)])) len1 ?_
  refine Goes.step (B := s₁.setTop (mkF m 4 #[.val (.ref bb), .val (.int 3)] [(.int 0)])) (fun _ k => XS.isub X0.here hx rfl (hb hby d20_3) rfl k) ?_
  refine Goes.step (fun _ k => pw_bipush X0.here hx (v := (31 : Int32)) (hb hby d20_4) rfl _ k) ?_
  refine Goes.step (B := s₁.setTop (mkF m 7 #[.val (.ref bb), .val (.int 3)] [(.int 0)])) (fun _ k => XS.iushr X0.here hx rfl (hb hby d20_6) rfl k) ?_
  refine Goes.step (B := s₁.setTop (mkF m 8 #[.val (.ref bb), .val (.int 3)] [(.int 0)])) (fun _ k => XS.i2b X0.here hx rfl (hb hby d20_7) rfl k) ?_
  exact Goes.retN X0 hx e0 (t := .byte) Bd.returns (by simp) hlk (hb hby d20_8) (by decide) (by decide) (⟨rfl, N0, rfl⟩)
theorem ef_rmSJ_3 (m : MethodId) (x0 : Addr) (x1 : Addr) (x2 : Int32) (x3 : Int32) : entryFrame m #[(.ref x0), (.ref x1), (.int x2), (.int x3), .null] 6 = mkF m 0 #[.val (.ref x0), .val (.ref x1), .val (.int x2), .val (.int x3), .val .null, .unset] [] := by first | (simp [entryFrame, mkF, argsToLocals, Value.category]; done) | rfl
def QSJ_3 (Z : State) (a0r : Addr) (ca : Addr) (kc : ClassId) (cs : Int32) (ch0 : Int32) (ch1 : Int32) (ch2 : Int32) (h0 : Heap) (n0 : Nat) (v : Option Value) (h : Heap) (L : List Loc) : Prop := v = none ∧ Fr n0 L ∧ Keep h0 h [a0r] ∧ Exa Z h a0r "java/lang/String" ∧ ∃ (vb : Addr) (kv : ClassId), Fld Z h a0r "java/lang/String" "value" "[B" (.ref vb) ∧ Fld Z h a0r "java/lang/String" "coder" "B" (.int (0 : Int32)) ∧ Arv Z h vb kv .byte (3 : Int32) [.int (own_b ch0), .int (own_b ch1), .int (own_b ch2)] (.int (0 : Int32))
set_option maxRecDepth 65536 in
set_option maxHeartbeats 40000000 in
theorem rmSJ_3 (l : Launch) (Z : State) (a0 : Array Value) (hw : ∀ d ∈ tables_1, d.before a0 Z = true) (ws : List Jvm.Cond) (a0r : Addr) (ca : Addr) (kc : ClassId) (cs : Int32) (ch0 : Int32) (ch1 : Int32) (ch2 : Int32) (h0 : Heap) (n0 : Nat) (O0 : Old Z n0 h0) (Er : Exa Z h0 a0r "java/lang/String") (gr : n0 ≤ a0r) (Fr_value : Fld Z h0 a0r "java/lang/String" "value" "[B" .null) (Fr_coder : Fld Z h0 a0r "java/lang/String" "coder" "B" (.int (0 : Int32))) (Vc : Arv Z h0 ca kc .char (3 : Int32) [.int ch0, .int ch1, .int ch2] (.int (0 : Int32))) (Sc : Sta Z h0 "java/lang/String" "COMPACT_STRINGS" "Z" (.int cs)) (hcs : ¬ cs = (0 : Int32)) (hk0 : own_ok ch0) (hk1 : own_ok ch1) (hk2 : own_ok ch2) :
    MetFree l (⟨"java/lang/String", "<init>", "([CIILjava/lang/Void;)V"⟩ : MethodName) (head1 (Jvm.Cond.code (⟨"java/lang/String", "<init>", "([CIILjava/lang/Void;)V"⟩ : MethodName) jdk_42_method_149_code 6 none :: ws) ({ frames := 2, cells := 1, slots := 3, locals := 35 } : Room)) (fun a U => a = #[(.ref a0r), (.ref ca), (.int 0), (.int 3), .null] ∧ Z.Warmed39 U.vm ∧ U.heap = h0) (fun _ _ _ _ _ => True) (fun _ U o U' => ∃ v L, o = .returned v ∧ QSJ_3 Z a0r ca kc cs ch0 ch1 ch2 h0 n0 v U'.heap L ∧ FrameEnd U o U' L ({ frames := 2, cells := 1, slots := 3, locals := 35 } : Room).cells ({ frames := 2, cells := 1, slots := 3, locals := 35 } : Room).slots) := by
  refine MetFree.of_bodySF (plainFor_of_name pn_String) hisR ?_
  intro p e s m args below meth c s₁ Bd hml0 hP hK
  obtain ⟨rfl, hZ, hh⟩ := hP
  have hx := Bd.exec
  have hby := Bd.bytes
  have hlk : meth.locks = false := BodyLoose.notSynchronized Bd
  have hml : c.maxLocals = 6 := hml0
  have hown : s.vm.findClass "java/lang/String" = some m.cls := findClass_of_methodNamed Bd.named
  have hnm := (name_of_methodNamed Bd.named Bd.method).1
  have X0 : Stand p l e ({ frames := 2, cells := 1, slots := 3, locals := 35 } : Room) s m #[(.ref a0r), (.ref ca), (.int 0), (.int 3), .null] below meth c s₁ [] 0 0 := Stand.of_body Bd
  have e0 : s₁.heap = h0 := by rw [← hh, Bd.state]; rfl
  have N0 := Fr.nil n0
  show Goes p e below s (QSJ_3 Z a0r ca kc cs ch0 ch1 ch2 h0 n0) ({ frames := 2, cells := 1, slots := 3, locals := 35 } : Room).cells ({ frames := 2, cells := 1, slots := 3, locals := 35 } : Room).slots (s₁.setTop (entryFrame m #[(.ref a0r), (.ref ca), (.int 0), (.int 3), .null] 6))
  refine Goes.enter (g' := (mkF m 0 #[.val (.ref a0r), .val (.ref ca), .val (.int 0), .val (.int 3), .val .null, .unset] [])) (ef_rmSJ_3 m a0r ca ((0 : Int32)) ((3 : Int32))) ?_
  refine Goes.step (fun _ k => pw_aloadN X0.here hx (hb hby d3_0) rfl rfl _ k) ?_
  obtain ⟨T1, X1, e1, st1⟩ := initO X0 hx hZ hown (own_w16 hw) (own_w17 hw) (own_w18 hw) e0 (g := (mkF m 1 #[.val (.ref a0r), .val (.ref ca), .val (.int 0), .val (.int 3), .val .null, .unset] [(.ref a0r)])) rfl (by rw [hml]; rfl) rfl (hb hby d3_1) (by decide) (W := 0) (by show 2 * 0 + _ ≤ _; exact Nat.le_of_eq rfl) (by decide)
  refine Goes.step (B := T1.setTop (mkF m 4 #[.val (.ref a0r), .val (.ref ca), .val (.int 0), .val (.int 3), .val .null, .unset] [])) st1 ?_
  refine Goes.step (fun _ k => pw_iloadN X1.here hx (hb hby d3_4) rfl _ (pw_ifYes X1.here hx (pc' := 27) (hb hby d3_5) ((if0 _ _).trans (feq (by decide)).2) (by decide) (by decide) _ k)) ?_
  obtain ⟨T2, X2, e2, st2⟩ := getS2 X1 hx hZ hown (host := "") (Or.inl (own_w46 hw)) Via.refl e1 Sc (g := (mkF m 27 #[.val (.ref a0r), .val (.ref ca), .val (.int 0), .val (.int 3), .val .null, .unset] [])) rfl (hb hby d3_27)
  refine Goes.step (B := T2.setTop (mkF m 30 #[.val (.ref a0r), .val (.ref ca), .val (.int 0), .val (.int 3), .val .null, .unset] [(.int cs)])) st2 ?_
  refine Goes.step (fun _ k => pw_ifNo X2.here hx (hb hby d3_30) ((if0 _ _).trans (feq hcs).1) _ (pw_aloadN X2.here hx (hb hby d3_33) rfl rfl _ (pw_iloadN X2.here hx (hb hby d3_34) rfl _ (pw_iloadN X2.here hx (hb hby d3_35) rfl _ k)))) ?_
  have lt_a0r_3 := Er.lt
  have lt_ca_3 := Vc.lt
  obtain ⟨_, _, ⟨T3, L3, k3, n3⟩, -, X3, ⟨Lc3, hQ3, l3, y3, z3⟩, st3⟩ := Jvm.LawKit.callS X2 hx (y := (⟨"java/lang/StringUTF16", "compress", "([CII)[B"⟩ : MethodName)) hown (mvT hZ (own_w83 hw)) (mvT hZ (own_w84 hw)) (mvT hZ (own_w85 hw)) (mvT hZ (own_w86 hw)) (by decide) (backOf (W := 0) (rmC3_3 l Z a0 hw [] ca kc ch0 ch1 ch2 h0 n0 O0 Vc hk0 hk1 hk2) hZ (own_w86 hw) (own_w85 hw) (by decide) (by decide)) (g := (mkF m 36 #[.val (.ref a0r), .val (.ref ca), .val (.int 0), .val (.int 3), .val .null, .unset] [(.int 3), (.int 0), (.ref ca)])) rfl (by rw [hml]; rfl) (argsL := [(.ref ca), (.int 0), (.int 3)]) (rest := []) (lenOf pd_2 rfl) rfl (by show 2 * 0 + _ ≤ _; exact Nat.le_of_eq rfl) (hb hby d3_36) (fun _ _ => ⟨rfl, e2, (by decide : 0 + 1 ≤ _), (by decide : 0 + 3 ≤ _)⟩)
  dsimp only [Pt.U, Pt.locs, Pt.cells, Pt.slots] at X3 l3 y3 z3 st3 hQ3
  subst l3 y3 z3
  obtain ⟨fb3, fk3, rfl, Nq3, Kp3, gb3, sb3, Vb3⟩ := hQ3
  have ne_a0r_fb3 : a0r ≠ fb3 := Nat.ne_of_lt (Nat.lt_of_lt_of_le lt_a0r_3 sb3)
  have ne_ca_fb3 : ca ≠ fb3 := Nat.ne_of_lt (Nat.lt_of_lt_of_le lt_ca_3 sb3)
  have O_3 := O0.keep Kp3 all0
  have K_3 := (Keep.refl h0 [a0r]).trans Kp3 all0
  have N3 := Fr.app N0 Nq3
  refine Goes.step (B := T3.setTop (mkF m 39 #[.val (.ref a0r), .val (.ref ca), .val (.int 0), .val (.int 3), .val .null, .unset] [(.ref fb3)])) st3 ?_
  refine Goes.step (fun _ k => pw_astore X3.here hx (l' := #[.val (.ref a0r), .val (.ref ca), .val (.int 0), .val (.int 3), .val .null, .val (.ref fb3)]) (hb hby d3_39) rfl rfl _ (pw_aloadN X3.here hx (hb hby d3_41) rfl rfl _ (pw_aload X3.here hx (hb hby d3_42) rfl rfl _ (pw_iloadN X3.here hx (hb hby d3_44) rfl _ k)))) ?_
  obtain ⟨_, _, ⟨T4, L4, k4, n4⟩, -, X4, ⟨Lc4, hQ4, l4, y4, z4⟩, st4⟩ := Jvm.LawKit.callS X3 hx (y := (⟨"java/lang/StringUTF16", "coderFromArrayLen", "([BI)B"⟩ : MethodName)) hown (mvT hZ (own_w90 hw)) (mvT hZ (own_w91 hw)) (mvT hZ (own_w85 hw)) (mvT hZ (own_w92 hw)) (by decide) (backOf (W := 1) (rmCF_3 l Z a0 hw [] fb3 fk3 [(.int (own_b ch0)), (.int (own_b ch1)), (.int (own_b ch2))] T3.heap n0 O_3 Vb3) hZ (own_w92 hw) (own_w85 hw) (by decide) (by decide)) (g := (mkF m 45 #[.val (.ref a0r), .val (.ref ca), .val (.int 0), .val (.int 3), .val .null, .val (.ref fb3)] [(.int 3), (.ref fb3), (.ref a0r)])) rfl (by rw [hml]; rfl) (argsL := [(.ref fb3), (.int 3)]) (rest := [(.ref a0r)]) (lenOf pd_3 rfl) rfl (by show 2 * 0 + _ ≤ _; exact Nat.le_of_eq rfl) (hb hby d3_45) (fun _ _ => ⟨rfl, rfl, (by decide : 1 + 0 ≤ _), (by decide : 3 + 0 ≤ _)⟩)
  dsimp only [Pt.U, Pt.locs, Pt.cells, Pt.slots] at X4 l4 y4 z4 st4 hQ4
  subst l4 y4 z4
  obtain ⟨rfl, Nq4, eh4⟩ := hQ4
  have N4 := Fr.app N3 Nq4
  refine Goes.step (B := T4.setTop (mkF m 48 #[.val (.ref a0r), .val (.ref ca), .val (.int 0), .val (.int 3), .val .null, .val (.ref fb3)] [(.int 0), (.ref a0r)])) st4 ?_
  have f5 := (Er.keep Kp3)
  have f6 := (Fr_coder.keep Kp3 nin0)
  obtain ⟨T7, h7, X7, e7, W7, st7⟩ := putFN X4 hx hZ hown (own_w26 hw) Via.refl eh4 f6 f5 (Or.inr ⟨(own_w22 hw), rfl, hnm⟩) (own_w7 hw) (ty := .byte) (v' := (.int 0)) (by decide) rfl (by decide) (g := (mkF m 48 #[.val (.ref a0r), .val (.ref ca), .val (.int 0), .val (.int 3), .val .null, .val (.ref fb3)] [(.int 0), (.ref a0r)])) rfl rfl (hb hby d3_48)
  have Fw7 := f6.same W7
  have N7 := Fr.snoc X7 N4 gr
  have O_7 := O_3.wr W7 gr
  have K_7 := K_3.wr W7 (Or.inl (List.mem_of_getElem? (i := 0) rfl))
  refine Goes.step (B := T7.setTop (mkF m 51 #[.val (.ref a0r), .val (.ref ca), .val (.int 0), .val (.int 3), .val .null, .val (.ref fb3)] [])) st7 ?_
  refine Goes.step (fun _ k => pw_aloadN X7.here hx (hb hby d3_51) rfl rfl _ (pw_aload X7.here hx (hb hby d3_52) rfl rfl _ k)) ?_
  have f8 := (f5.wr W7)
  have f9 := ((Fr_value.keep Kp3 nin0).other W7 (Or.inr (slot_ne (Or.inr (own_w21 hw)) (Or.inr (own_w22 hw)) (by decide) (t := (.array .byte)) (t' := .byte) (by decide) (by decide))))
  obtain ⟨T10, h10, X10, e10, W10, st10⟩ := putF X7 hx hZ hown (host := "") (Or.inl (own_w25 hw)) Via.refl e7 f9 f8 (Or.inr ⟨(own_w21 hw), rfl, hnm⟩) (own_w7 hw) (ty := (.array .byte)) (by decide) rfl rfl (g := (mkF m 54 #[.val (.ref a0r), .val (.ref ca), .val (.int 0), .val (.int 3), .val .null, .val (.ref fb3)] [(.ref fb3), (.ref a0r)])) rfl rfl (hb hby d3_54)
  have Fw10 := f9.same W10
  have N10 := Fr.snoc X10 N7 gr
  have O_10 := O_7.wr W10 gr
  have K_10 := K_7.wr W10 (Or.inl (List.mem_of_getElem? (i := 0) rfl))
  refine Goes.step (B := T10.setTop (mkF m 57 #[.val (.ref a0r), .val (.ref ca), .val (.int 0), .val (.int 3), .val .null, .val (.ref fb3)] [])) st10 ?_
  have f11 := (f8.wr W10)
  have f12 := (Fw7.other W10 (Or.inr (slot_ne (Or.inr (own_w22 hw)) (Or.inr (own_w21 hw)) (by decide) (t := .byte) (t' := (.array .byte)) (by decide) (by decide))))
  have f13 := ((Vb3.other W7 (Ne.symm ne_a0r_fb3)).other W10 (Ne.symm ne_a0r_fb3))
  exact Goes.retV X10 hx e10 Bd.returns hlk (hb hby d3_57) (by decide) (by decide) (⟨rfl, N10, K_10, f11, fb3, fk3, Fw10, f12, f13⟩)
theorem ef_rmSI_3 (m : MethodId) (x0 : Addr) (x1 : Addr) : entryFrame m #[(.ref x0), (.ref x1)] 2 = mkF m 0 #[.val (.ref x0), .val (.ref x1)] [] := by first | (simp [entryFrame, mkF, argsToLocals, Value.category]; done) | rfl
def QSI_3 (Z : State) (a0r : Addr) (ca : Addr) (kc : ClassId) (cs : Int32) (ch0 : Int32) (ch1 : Int32) (ch2 : Int32) (h0 : Heap) (n0 : Nat) (v : Option Value) (h : Heap) (L : List Loc) : Prop := v = none ∧ Fr n0 L ∧ Keep h0 h [a0r] ∧ Exa Z h a0r "java/lang/String" ∧ ∃ (vb : Addr) (kv : ClassId), Fld Z h a0r "java/lang/String" "value" "[B" (.ref vb) ∧ Fld Z h a0r "java/lang/String" "coder" "B" (.int (0 : Int32)) ∧ Arv Z h vb kv .byte (3 : Int32) [.int (own_b ch0), .int (own_b ch1), .int (own_b ch2)] (.int (0 : Int32))
set_option maxRecDepth 65536 in
set_option maxHeartbeats 40000000 in
theorem rmSI_3 (l : Launch) (Z : State) (a0 : Array Value) (hw : ∀ d ∈ tables_1, d.before a0 Z = true) (ws : List Jvm.Cond) (a0r : Addr) (ca : Addr) (kc : ClassId) (cs : Int32) (ch0 : Int32) (ch1 : Int32) (ch2 : Int32) (h0 : Heap) (n0 : Nat) (O0 : Old Z n0 h0) (Er : Exa Z h0 a0r "java/lang/String") (gr : n0 ≤ a0r) (Fr_value : Fld Z h0 a0r "java/lang/String" "value" "[B" .null) (Fr_coder : Fld Z h0 a0r "java/lang/String" "coder" "B" (.int (0 : Int32))) (Vc : Arv Z h0 ca kc .char (3 : Int32) [.int ch0, .int ch1, .int ch2] (.int (0 : Int32))) (Sc : Sta Z h0 "java/lang/String" "COMPACT_STRINGS" "Z" (.int cs)) (hcs : ¬ cs = (0 : Int32)) (hk0 : own_ok ch0) (hk1 : own_ok ch1) (hk2 : own_ok ch2) :
    MetFree l (⟨"java/lang/String", "<init>", "([C)V"⟩ : MethodName) (head1 (Jvm.Cond.code (⟨"java/lang/String", "<init>", "([C)V"⟩ : MethodName) jdk_42_method_3_code 2 none :: ws) ({ frames := 3, cells := 1, slots := 3, locals := 52 } : Room)) (fun a U => a = #[(.ref a0r), (.ref ca)] ∧ Z.Warmed39 U.vm ∧ U.heap = h0) (fun _ _ _ _ _ => True) (fun _ U o U' => ∃ v L, o = .returned v ∧ QSI_3 Z a0r ca kc cs ch0 ch1 ch2 h0 n0 v U'.heap L ∧ FrameEnd U o U' L ({ frames := 3, cells := 1, slots := 3, locals := 52 } : Room).cells ({ frames := 3, cells := 1, slots := 3, locals := 52 } : Room).slots) := by
  refine MetFree.of_bodySF (plainFor_of_name pn_String) hisR ?_
  intro p e s m args below meth c s₁ Bd hml0 hP hK
  obtain ⟨rfl, hZ, hh⟩ := hP
  have hx := Bd.exec
  have hby := Bd.bytes
  have hlk : meth.locks = false := BodyLoose.notSynchronized Bd
  have hml : c.maxLocals = 2 := hml0
  have hown : s.vm.findClass "java/lang/String" = some m.cls := findClass_of_methodNamed Bd.named
  have hnm := (name_of_methodNamed Bd.named Bd.method).1
  have X0 : Stand p l e ({ frames := 3, cells := 1, slots := 3, locals := 52 } : Room) s m #[(.ref a0r), (.ref ca)] below meth c s₁ [] 0 0 := Stand.of_body Bd
  have e0 : s₁.heap = h0 := by rw [← hh, Bd.state]; rfl
  have N0 := Fr.nil n0
  show Goes p e below s (QSI_3 Z a0r ca kc cs ch0 ch1 ch2 h0 n0) ({ frames := 3, cells := 1, slots := 3, locals := 52 } : Room).cells ({ frames := 3, cells := 1, slots := 3, locals := 52 } : Room).slots (s₁.setTop (entryFrame m #[(.ref a0r), (.ref ca)] 2))
  refine Goes.enter (g' := (mkF m 0 #[.val (.ref a0r), .val (.ref ca)] [])) (ef_rmSI_3 m a0r ca) ?_
  refine Goes.step (fun _ k => pw_aloadN X0.here hx (hb hby d2_0) rfl rfl _ (pw_aloadN X0.here hx (hb hby d2_1) rfl rfl _ (pw_iconst X0.here hx (v := (0 : Int32)) (hb hby d2_2) rfl _ (pw_aloadN X0.here hx (hb hby d2_3) rfl rfl _ k)))) ?_
  obtain ⟨c1, Ar1, -, Sz1, Nn1, -, -⟩ := id Vc
  have len1 := X0.arraylength hx (by rw [e0]; exact Ar1.1) (State.isArrayOf_alike hZ.alike Ar1.2.1) (g := (mkF m 4 #[.val (.ref a0r), .val (.ref ca)] [(.ref ca), (.int 0), (.ref ca), (.ref a0r)])) rfl rfl (hb hby d2_4)
  rw [len_of Sz1 Nn1] at len1
  refine Goes.step (B := s₁.setTop (mkF m 5 #[.val (.ref a0r), .val (.ref ca)] [(.int 3), (.int 0), (.ref ca), (.ref a0r)])) len1 ?_
  refine Goes.step (fun _ k => pw_aconstNull X0.here hx (hb hby d2_5) _ k) ?_
  obtain ⟨_, _, ⟨T2, L2, k2, n2⟩, -, X2, ⟨Lc2, hQ2, l2, y2, z2⟩, st2⟩ := X0.specialBack hx (y := (⟨"java/lang/String", "<init>", "([CIILjava/lang/Void;)V"⟩ : MethodName)) rfl hown (mvT hZ (own_w12 hw)) (mvT hZ (own_w13 hw)) (mvT hZ (own_w15 hw)) (by decide) (backOf (W := 0) (rmSJ_3 l Z a0 hw [] a0r ca kc cs ch0 ch1 ch2 h0 n0 O0 Er gr Fr_value Fr_coder Vc Sc hcs hk0 hk1 hk2) hZ (own_w15 hw) (own_w8 hw) (by decide) (by decide)) (g := (mkF m 6 #[.val (.ref a0r), .val (.ref ca)] [.null, (.int 3), (.int 0), (.ref ca), (.ref a0r)])) rfl (by rw [hml]; rfl) (Steps.refl _) (a := a0r) (argsL := [(.ref ca), (.int 0), (.int 3), .null]) (rest := []) (lenOf pd_0 rfl) rfl (by show 2 * 0 + _ ≤ _; exact Nat.le_of_eq rfl) (hb hby d2_6) (fun _ _ => ⟨rfl, e0, (by decide : 0 + 1 ≤ _), (by decide : 0 + 3 ≤ _)⟩)
  dsimp only [Pt.U, Pt.locs, Pt.cells, Pt.slots] at X2 l2 y2 z2 st2 hQ2
  subst l2 y2 z2
  obtain ⟨rfl, Nq2, Kp2, Ex2, sv2, sk2, Fsv2, Fsc2, Vsv2⟩ := hQ2
  have O_2 := O0.keep Kp2 (allS gr all0)
  have K_2 := (Keep.refl h0 [a0r]).trans Kp2 (allS (P := fun x => x ∈ _ ∨ _) (Or.inl (List.mem_of_getElem? (i := 0) rfl)) all0)
  have N2 := Fr.app N0 Nq2
  refine Goes.via (B := T2.setTop (mkF m 9 #[.val (.ref a0r), .val (.ref ca)] [])) st2 ?_
  exact Goes.retV X2 hx rfl Bd.returns hlk (hb hby d2_9) (by decide) (by decide) (⟨rfl, N2, K_2, Ex2, sv2, sk2, Fsv2, Fsc2, Vsv2⟩)
theorem ef_rmC5_4 (m : MethodId) (x0 : Addr) (x1 : Int32) (x2 : Addr) (x3 : Int32) (x4 : Int32) : entryFrame m #[(.ref x0), (.int x1), (.ref x2), (.int x3), (.int x4)] 7 = mkF m 0 #[.val (.ref x0), .val (.int x1), .val (.ref x2), .val (.int x3), .val (.int x4), .unset, .unset] [] := by first | (simp [entryFrame, mkF, argsToLocals, Value.category]; done) | rfl
def QC5_4 (Z : State) (ca : Addr) (kc : ClassId) (bb : Addr) (kb : ClassId) (ch0 : Int32) (ch1 : Int32) (ch2 : Int32) (ch3 : Int32) (h0 : Heap) (n0 : Nat) (v : Option Value) (h : Heap) (L : List Loc) : Prop := v = some (.int (4 : Int32)) ∧ Fr n0 L ∧ Keep h0 h [bb] ∧ Arv Z h bb kb .byte (4 : Int32) [.int (own_b ch0), .int (own_b ch1), .int (own_b ch2), .int (own_b ch3)] (.int (0 : Int32))
set_option maxRecDepth 65536 in
set_option maxHeartbeats 40000000 in
theorem rmC5_4 (l : Launch) (Z : State) (a0 : Array Value) (hw : ∀ d ∈ tables_1, d.before a0 Z = true) (ws : List Jvm.Cond) (ca : Addr) (kc : ClassId) (bb : Addr) (kb : ClassId) (ch0 : Int32) (ch1 : Int32) (ch2 : Int32) (ch3 : Int32) (h0 : Heap) (n0 : Nat) (O0 : Old Z n0 h0) (Vc : Arv Z h0 ca kc .char (4 : Int32) [.int ch0, .int ch1, .int ch2, .int ch3] (.int (0 : Int32))) (Vb : Arv Z h0 bb kb .byte (4 : Int32) [.int (0 : Int32), .int (0 : Int32), .int (0 : Int32), .int (0 : Int32)] (.int (0 : Int32))) (gb : n0 ≤ bb) (ncb : ca ≠ bb) (hk0 : own_ok ch0) (hk1 : own_ok ch1) (hk2 : own_ok ch2) (hk3 : own_ok ch3) :
    MetFree l (⟨"java/lang/StringUTF16", "compress", "([CI[BII)I"⟩ : MethodName) (head1 (Jvm.Cond.code (⟨"java/lang/StringUTF16", "compress", "([CI[BII)I"⟩ : MethodName) jdk_52_method_21_code 7 (some .int) :: ws) ({ frames := 0, cells := 0, slots := 0, locals := 0 } : Room)) (fun a U => a = #[(.ref ca), (.int 0), (.ref bb), (.int 0), (.int 4)] ∧ Z.Warmed39 U.vm ∧ U.heap = h0) (fun _ _ _ _ _ => True) (fun _ U o U' => ∃ v L, o = .returned v ∧ QC5_4 Z ca kc bb kb ch0 ch1 ch2 ch3 h0 n0 v U'.heap L ∧ FrameEnd U o U' L ({ frames := 0, cells := 0, slots := 0, locals := 0 } : Room).cells ({ frames := 0, cells := 0, slots := 0, locals := 0 } : Room).slots) := by
  refine MetFree.of_bodySF (plainFor_of_name pn_StringUTF16) hisR ?_
  intro p e s m args below meth c s₁ Bd hml0 hP hK
  obtain ⟨rfl, hZ, hh⟩ := hP
  have hx := Bd.exec
  have hby := Bd.bytes
  have hlk : meth.locks = false := BodyLoose.notSynchronized Bd
  have hml : c.maxLocals = 7 := hml0
  have hown : s.vm.findClass "java/lang/StringUTF16" = some m.cls := findClass_of_methodNamed Bd.named
  have hnm := (name_of_methodNamed Bd.named Bd.method).1
  have X0 : Stand p l e ({ frames := 0, cells := 0, slots := 0, locals := 0 } : Room) s m #[(.ref ca), (.int 0), (.ref bb), (.int 0), (.int 4)] below meth c s₁ [] 0 0 := Stand.of_body Bd
  have e0 : s₁.heap = h0 := by rw [← hh, Bd.state]; rfl
  have N0 := Fr.nil n0
  show Goes p e below s (QC5_4 Z ca kc bb kb ch0 ch1 ch2 ch3 h0 n0) ({ frames := 0, cells := 0, slots := 0, locals := 0 } : Room).cells ({ frames := 0, cells := 0, slots := 0, locals := 0 } : Room).slots (s₁.setTop (entryFrame m #[(.ref ca), (.int 0), (.ref bb), (.int 0), (.int 4)] 7))
  refine Goes.enter (g' := (mkF m 0 #[.val (.ref ca), .val (.int 0), .val (.ref bb), .val (.int 0), .val (.int 4), .unset, .unset] [])) (ef_rmC5_4 m ca ((0 : Int32)) bb ((0 : Int32)) ((4 : Int32))) ?_
  refine Goes.step (fun _ k => pw_iconst X0.here hx (v := (0 : Int32)) (hb hby d19_0) rfl _ (pw_istore X0.here hx (l' := #[.val (.ref ca), .val (.int 0), .val (.ref bb), .val (.int 0), .val (.int 4), .val (.int 0), .unset]) (hb hby d19_1) rfl _ (pw_iload X0.here hx (hb hby d19_3) rfl _ (pw_iload X0.here hx (hb hby d19_5) rfl _ (pw_icmpNo X0.here hx (hb hby d19_7) (tlt (by decide)).2.1 _ (pw_aloadN X0.here hx (hb hby d19_10) rfl rfl _ k)))))) ?_
  refine Goes.step (fun _ k => pw_iloadN X0.here hx (hb hby d19_11) rfl _ k) ?_
  obtain ⟨c1, Ar1, -, Sz1, Nn1, Hs1, -⟩ := id Vc
  have hin1 : ¬ ((0 : Int32) < 0 ∨ c1.slots.size ≤ ((0 : Int32)).toNatClampNeg) := inb_of Sz1 ⟨by decide, by decide⟩
  refine Goes.step (B := s₁.setTop (mkF m 13 #[.val (.ref ca), .val (.int 0), .val (.ref bb), .val (.int 0), .val (.int 4), .val (.int 0), .unset] [(.int ch0)])) (X0.caload hx (j := (0 : Int32)) (v := (.int ch0)) (by rw [e0]; exact Ar1.1) (State.isArrayOf_alike hZ.alike Ar1.2.1) Ar1.2.2 hin1 (Has.at Hs1 hin1 rfl) (g := (mkF m 12 #[.val (.ref ca), .val (.int 0), .val (.ref bb), .val (.int 0), .val (.int 4), .val (.int 0), .unset] [(.int 0), (.ref ca)])) rfl rfl (hb hby d19_12)) ?_
  refine Goes.step (fun _ k => pw_istore X0.here hx (l' := #[.val (.ref ca), .val (.int 0), .val (.ref bb), .val (.int 0), .val (.int 4), .val (.int 0), .val (.int ch0)]) (hb hby d19_13) rfl _ (pw_iload X0.here hx (hb hby d19_15) rfl _ (pw_sipush X0.here hx (v := (255 : Int32)) (hb hby d19_17) rfl _ (pw_icmpYes X0.here hx (pc' := 26) (hb hby d19_20) (flt (own_le hk0)).2.2.2 (by decide) (by decide) _ (pw_aloadN X0.here hx (hb hby d19_26) rfl rfl _ (pw_iloadN X0.here hx (hb hby d19_27) rfl _ k)))))) ?_
  refine Goes.step (fun _ k => pw_iload X0.here hx (hb hby d19_28) rfl _ k) ?_
  refine Goes.step (B := s₁.setTop (mkF m 31 #[.val (.ref ca), .val (.int 0), .val (.ref bb), .val (.int 0), .val (.int 4), .val (.int 0), .val (.int ch0)] [(.int (ch0.toInt8.toInt32)), (.int 0), (.ref bb)])) (fun _ k => XS.i2b X0.here hx rfl (hb hby d19_30) rfl k) ?_
  obtain ⟨c2, Ar2, q2, Sz2, Nn2, Hs2, Gs2⟩ := id Vb
  have hin2 : ¬ ((0 : Int32) < 0 ∨ c2.slots.size ≤ ((0 : Int32)).toNatClampNeg) := inb_of Sz2 ⟨by decide, by decide⟩
  obtain ⟨T2, h2, X2, e2, W2, st2⟩ := stB X0 hx hZ e0 Ar2 (j := (0 : Int32)) hin2 (g := (mkF m 31 #[.val (.ref ca), .val (.int 0), .val (.ref bb), .val (.int 0), .val (.int 4), .val (.int 0), .val (.int ch0)] [(.int (ch0.toInt8.toInt32)), (.int 0), (.ref bb)])) rfl rfl (hb hby d19_31)
  have V2 : Arv Z h2 bb kb .byte (4 : Int32) [(.int (nar .byte (ch0.toInt8.toInt32))), (.int 0), (.int 0), (.int 0)] (.int 0) := Arv.set Ar2 q2 Sz2 Nn2 Hs2 Gs2 (fits_nar_byte _) W2 0 rfl (Nat.le_of_ble_eq_true rfl)
  have N2 := Fr.snoc X2 N0 gb
  have O_2 := O0.wr W2 gb
  have K_2 := (Keep.refl h0 [bb]).wr W2 (Or.inl (List.mem_of_getElem? (i := 0) rfl))
  refine Goes.step (B := T2.setTop (mkF m 32 #[.val (.ref ca), .val (.int 0), .val (.ref bb), .val (.int 0), .val (.int 4), .val (.int 0), .val (.int ch0)] [])) st2 ?_
  refine Goes.step (fun _ k => pw_iinc X2.here hx (l' := #[.val (.ref ca), .val (.int 1), .val (.ref bb), .val (.int 0), .val (.int 4), .val (.int 0), .val (.int ch0)]) (hb hby d19_32) rfl rfl _ (pw_iinc X2.here hx (l' := #[.val (.ref ca), .val (.int 1), .val (.ref bb), .val (.int 1), .val (.int 4), .val (.int 0), .val (.int ch0)]) (hb hby d19_35) rfl rfl _ (pw_iinc X2.here hx (l' := #[.val (.ref ca), .val (.int 1), .val (.ref bb), .val (.int 1), .val (.int 4), .val (.int 1), .val (.int ch0)]) (hb hby d19_38) rfl rfl _ (pw_goto X2.here hx (pc' := 3) (hb hby d19_41) (by decide) (by decide) _ (pw_iload X2.here hx (hb hby d19_3) rfl _ (pw_iload X2.here hx (hb hby d19_5) rfl _ k)))))) ?_
  refine Goes.step (fun _ k => pw_icmpNo X2.here hx (hb hby d19_7) (tlt (by decide)).2.1 _ (pw_aloadN X2.here hx (hb hby d19_10) rfl rfl _ (pw_iloadN X2.here hx (hb hby d19_11) rfl _ k))) ?_
  have f3 := (Vc.other W2 ncb)
  obtain ⟨c4, Ar4, -, Sz4, Nn4, Hs4, -⟩ := id f3
  have hin4 : ¬ ((1 : Int32) < 0 ∨ c4.slots.size ≤ ((1 : Int32)).toNatClampNeg) := inb_of Sz4 ⟨by decide, by decide⟩
  refine Goes.step (B := T2.setTop (mkF m 13 #[.val (.ref ca), .val (.int 1), .val (.ref bb), .val (.int 1), .val (.int 4), .val (.int 1), .val (.int ch0)] [(.int ch1)])) (X2.caload hx (j := (1 : Int32)) (v := (.int ch1)) (by rw [e2]; exact Ar4.1) (State.isArrayOf_alike hZ.alike Ar4.2.1) Ar4.2.2 hin4 (Has.at Hs4 hin4 rfl) (g := (mkF m 12 #[.val (.ref ca), .val (.int 1), .val (.ref bb), .val (.int 1), .val (.int 4), .val (.int 1), .val (.int ch0)] [(.int 1), (.ref ca)])) rfl rfl (hb hby d19_12)) ?_
  refine Goes.step (fun _ k => pw_istore X2.here hx (l' := #[.val (.ref ca), .val (.int 1), .val (.ref bb), .val (.int 1), .val (.int 4), .val (.int 1), .val (.int ch1)]) (hb hby d19_13) rfl _ (pw_iload X2.here hx (hb hby d19_15) rfl _ (pw_sipush X2.here hx (v := (255 : Int32)) (hb hby d19_17) rfl _ (pw_icmpYes X2.here hx (pc' := 26) (hb hby d19_20) (flt (own_le hk1)).2.2.2 (by decide) (by decide) _ (pw_aloadN X2.here hx (hb hby d19_26) rfl rfl _ (pw_iloadN X2.here hx (hb hby d19_27) rfl _ k)))))) ?_
  refine Goes.step (fun _ k => pw_iload X2.here hx (hb hby d19_28) rfl _ k) ?_
  refine Goes.step (B := T2.setTop (mkF m 31 #[.val (.ref ca), .val (.int 1), .val (.ref bb), .val (.int 1), .val (.int 4), .val (.int 1), .val (.int ch1)] [(.int (ch1.toInt8.toInt32)), (.int 1), (.ref bb)])) (fun _ k => XS.i2b X2.here hx rfl (hb hby d19_30) rfl k) ?_
  obtain ⟨c5, Ar5, q5, Sz5, Nn5, Hs5, Gs5⟩ := id V2
  have hin5 : ¬ ((1 : Int32) < 0 ∨ c5.slots.size ≤ ((1 : Int32)).toNatClampNeg) := inb_of Sz5 ⟨by decide, by decide⟩
  obtain ⟨T5, h5, X5, e5, W5, st5⟩ := stB X2 hx hZ e2 Ar5 (j := (1 : Int32)) hin5 (g := (mkF m 31 #[.val (.ref ca), .val (.int 1), .val (.ref bb), .val (.int 1), .val (.int 4), .val (.int 1), .val (.int ch1)] [(.int (ch1.toInt8.toInt32)), (.int 1), (.ref bb)])) rfl rfl (hb hby d19_31)
  have V5 : Arv Z h5 bb kb .byte (4 : Int32) [(.int (nar .byte (ch0.toInt8.toInt32))), (.int (nar .byte (ch1.toInt8.toInt32))), (.int 0), (.int 0)] (.int 0) := Arv.set Ar5 q5 Sz5 Nn5 Hs5 Gs5 (fits_nar_byte _) W5 1 rfl (Nat.le_of_ble_eq_true rfl)
  have N5 := Fr.snoc X5 N2 gb
  have O_5 := O_2.wr W5 gb
  have K_5 := K_2.wr W5 (Or.inl (List.mem_of_getElem? (i := 0) rfl))
  refine Goes.step (B := T5.setTop (mkF m 32 #[.val (.ref ca), .val (.int 1), .val (.ref bb), .val (.int 1), .val (.int 4), .val (.int 1), .val (.int ch1)] [])) st5 ?_
  refine Goes.step (fun _ k => pw_iinc X5.here hx (l' := #[.val (.ref ca), .val (.int 2), .val (.ref bb), .val (.int 1), .val (.int 4), .val (.int 1), .val (.int ch1)]) (hb hby d19_32) rfl rfl _ (pw_iinc X5.here hx (l' := #[.val (.ref ca), .val (.int 2), .val (.ref bb), .val (.int 2), .val (.int 4), .val (.int 1), .val (.int ch1)]) (hb hby d19_35) rfl rfl _ (pw_iinc X5.here hx (l' := #[.val (.ref ca), .val (.int 2), .val (.ref bb), .val (.int 2), .val (.int 4), .val (.int 2), .val (.int ch1)]) (hb hby d19_38) rfl rfl _ (pw_goto X5.here hx (pc' := 3) (hb hby d19_41) (by decide) (by decide) _ (pw_iload X5.here hx (hb hby d19_3) rfl _ (pw_iload X5.here hx (hb hby d19_5) rfl _ k)))))) ?_
  refine Goes.step (fun _ k => pw_icmpNo X5.here hx (hb hby d19_7) (tlt (by decide)).2.1 _ (pw_aloadN X5.here hx (hb hby d19_10) rfl rfl _ (pw_iloadN X5.here hx (hb hby d19_11) rfl _ k))) ?_
  have f6 := (f3.other W5 ncb)
  obtain ⟨c7, Ar7, -, Sz7, Nn7, Hs7, -⟩ := id f6
  have hin7 : ¬ ((2 : Int32) < 0 ∨ c7.slots.size ≤ ((2 : Int32)).toNatClampNeg) := inb_of Sz7 ⟨by decide, by decide⟩
  refine Goes.step (B := T5.setTop (mkF m 13 #[.val (.ref ca), .val (.int 2), .val (.ref bb), .val (.int 2), .val (.int 4), .val (.int 2), .val (.int ch1)] [(.int ch2)])) (X5.caload hx (j := (2 : Int32)) (v := (.int ch2)) (by rw [e5]; exact Ar7.1) (State.isArrayOf_alike hZ.alike Ar7.2.1) Ar7.2.2 hin7 (Has.at Hs7 hin7 rfl) (g := (mkF m 12 #[.val (.ref ca), .val (.int 2), .val (.ref bb), .val (.int 2), .val (.int 4), .val (.int 2), .val (.int ch1)] [(.int 2), (.ref ca)])) rfl rfl (hb hby d19_12)) ?_
  refine Goes.step (fun _ k => pw_istore X5.here hx (l' := #[.val (.ref ca), .val (.int 2), .val (.ref bb), .val (.int 2), .val (.int 4), .val (.int 2), .val (.int ch2)]) (hb hby d19_13) rfl _ (pw_iload X5.here hx (hb hby d19_15) rfl _ (pw_sipush X5.here hx (v := (255 : Int32)) (hb hby d19_17) rfl _ (pw_icmpYes X5.here hx (pc' := 26) (hb hby d19_20) (flt (own_le hk2)).2.2.2 (by decide) (by decide) _ (pw_aloadN X5.here hx (hb hby d19_26) rfl rfl _ (pw_iloadN X5.here hx (hb hby d19_27) rfl _ k)))))) ?_
  refine Goes.step (fun _ k => pw_iload X5.here hx (hb hby d19_28) rfl _ k) ?_
  refine Goes.step (B := T5.setTop (mkF m 31 #[.val (.ref ca), .val (.int 2), .val (.ref bb), .val (.int 2), .val (.int 4), .val (.int 2), .val (.int ch2)] [(.int (ch2.toInt8.toInt32)), (.int 2), (.ref bb)])) (fun _ k => XS.i2b X5.here hx rfl (hb hby d19_30) rfl k) ?_
  obtain ⟨c8, Ar8, q8, Sz8, Nn8, Hs8, Gs8⟩ := id V5
  have hin8 : ¬ ((2 : Int32) < 0 ∨ c8.slots.size ≤ ((2 : Int32)).toNatClampNeg) := inb_of Sz8 ⟨by decide, by decide⟩
  obtain ⟨T8, h8, X8, e8, W8, st8⟩ := stB X5 hx hZ e5 Ar8 (j := (2 : Int32)) hin8 (g := (mkF m 31 #[.val (.ref ca), .val (.int 2), .val (.ref bb), .val (.int 2), .val (.int 4), .val (.int 2), .val (.int ch2)] [(.int (ch2.toInt8.toInt32)), (.int 2), (.ref bb)])) rfl rfl (hb hby d19_31)
  have V8 : Arv Z h8 bb kb .byte (4 : Int32) [(.int (nar .byte (ch0.toInt8.toInt32))), (.int (nar .byte (ch1.toInt8.toInt32))), (.int (nar .byte (ch2.toInt8.toInt32))), (.int 0)] (.int 0) := Arv.set Ar8 q8 Sz8 Nn8 Hs8 Gs8 (fits_nar_byte _) W8 2 rfl (Nat.le_of_ble_eq_true rfl)
  have N8 := Fr.snoc X8 N5 gb
  have O_8 := O_5.wr W8 gb
  have K_8 := K_5.wr W8 (Or.inl (List.mem_of_getElem? (i := 0) rfl))
  refine Goes.step (B := T8.setTop (mkF m 32 #[.val (.ref ca), .val (.int 2), .val (.ref bb), .val (.int 2), .val (.int 4), .val (.int 2), .val (.int ch2)] [])) st8 ?_
  refine Goes.step (fun _ k => pw_iinc X8.here hx (l' := #[.val (.ref ca), .val (.int 3), .val (.ref bb), .val (.int 2), .val (.int 4), .val (.int 2), .val (.int ch2)]) (hb hby d19_32) rfl rfl _ (pw_iinc X8.here hx (l' := #[.val (.ref ca), .val (.int 3), .val (.ref bb), .val (.int 3), .val (.int 4), .val (.int 2), .val (.int ch2)]) (hb hby d19_35) rfl rfl _ (pw_iinc X8.here hx (l' := #[.val (.ref ca), .val (.int 3), .val (.ref bb), .val (.int 3), .val (.int 4), .val (.int 3), .val (.int ch2)]) (hb hby d19_38) rfl rfl _ (pw_goto X8.here hx (pc' := 3) (hb hby d19_41) (by decide) (by decide) _ (pw_iload X8.here hx (hb hby d19_3) rfl _ (pw_iload X8.here hx (hb hby d19_5) rfl _ k)))))) ?_
  refine Goes.step (fun _ k => pw_icmpNo X8.here hx (hb hby d19_7) (tlt (by decide)).2.1 _ (pw_aloadN X8.here hx (hb hby d19_10) rfl rfl _ (pw_iloadN X8.here hx (hb hby d19_11) rfl _ k))) ?_
  have f9 := (f6.other W8 ncb)
  obtain ⟨c10, Ar10, -, Sz10, Nn10, Hs10, -⟩ := id f9
  have hin10 : ¬ ((3 : Int32) < 0 ∨ c10.slots.size ≤ ((3 : Int32)).toNatClampNeg) := inb_of Sz10 ⟨by decide, by decide⟩
  refine Goes.step (B := T8.setTop (mkF m 13 #[.val (.ref ca), .val (.int 3), .val (.ref bb), .val (.int 3), .val (.int 4), .val (.int 3), .val (.int ch2)] [(.int ch3)])) (X8.caload hx (j := (3 : Int32)) (v := (.int ch3)) (by rw [e8]; exact Ar10.1) (State.isArrayOf_alike hZ.alike Ar10.2.1) Ar10.2.2 hin10 (Has.at Hs10 hin10 rfl) (g := (mkF m 12 #[.val (.ref ca), .val (.int 3), .val (.ref bb), .val (.int 3), .val (.int 4), .val (.int 3), .val (.int ch2)] [(.int 3), (.ref ca)])) rfl rfl (hb hby d19_12)) ?_
  refine Goes.step (fun _ k => pw_istore X8.here hx (l' := #[.val (.ref ca), .val (.int 3), .val (.ref bb), .val (.int 3), .val (.int 4), .val (.int 3), .val (.int ch3)]) (hb hby d19_13) rfl _ (pw_iload X8.here hx (hb hby d19_15) rfl _ (pw_sipush X8.here hx (v := (255 : Int32)) (hb hby d19_17) rfl _ (pw_icmpYes X8.here hx (pc' := 26) (hb hby d19_20) (flt (own_le hk3)).2.2.2 (by decide) (by decide) _ (pw_aloadN X8.here hx (hb hby d19_26) rfl rfl _ (pw_iloadN X8.here hx (hb hby d19_27) rfl _ k)))))) ?_
  refine Goes.step (fun _ k => pw_iload X8.here hx (hb hby d19_28) rfl _ k) ?_
  refine Goes.step (B := T8.setTop (mkF m 31 #[.val (.ref ca), .val (.int 3), .val (.ref bb), .val (.int 3), .val (.int 4), .val (.int 3), .val (.int ch3)] [(.int (ch3.toInt8.toInt32)), (.int 3), (.ref bb)])) (fun _ k => XS.i2b X8.here hx rfl (hb hby d19_30) rfl k) ?_
  obtain ⟨c11, Ar11, q11, Sz11, Nn11, Hs11, Gs11⟩ := id V8
  have hin11 : ¬ ((3 : Int32) < 0 ∨ c11.slots.size ≤ ((3 : Int32)).toNatClampNeg) := inb_of Sz11 ⟨by decide, by decide⟩
  obtain ⟨T11, h11, X11, e11, W11, st11⟩ := stB X8 hx hZ e8 Ar11 (j := (3 : Int32)) hin11 (g := (mkF m 31 #[.val (.ref ca), .val (.int 3), .val (.ref bb), .val (.int 3), .val (.int 4), .val (.int 3), .val (.int ch3)] [(.int (ch3.toInt8.toInt32)), (.int 3), (.ref bb)])) rfl rfl (hb hby d19_31)
  have V11 : Arv Z h11 bb kb .byte (4 : Int32) [(.int (nar .byte (ch0.toInt8.toInt32))), (.int (nar .byte (ch1.toInt8.toInt32))), (.int (nar .byte (ch2.toInt8.toInt32))), (.int (nar .byte (ch3.toInt8.toInt32)))] (.int 0) := Arv.set Ar11 q11 Sz11 Nn11 Hs11 Gs11 (fits_nar_byte _) W11 3 rfl (Nat.le_of_ble_eq_true rfl)
  have N11 := Fr.snoc X11 N8 gb
  have O_11 := O_8.wr W11 gb
  have K_11 := K_8.wr W11 (Or.inl (List.mem_of_getElem? (i := 0) rfl))
  refine Goes.step (B := T11.setTop (mkF m 32 #[.val (.ref ca), .val (.int 3), .val (.ref bb), .val (.int 3), .val (.int 4), .val (.int 3), .val (.int ch3)] [])) st11 ?_
  refine Goes.step (fun _ k => pw_iinc X11.here hx (l' := #[.val (.ref ca), .val (.int 4), .val (.ref bb), .val (.int 3), .val (.int 4), .val (.int 3), .val (.int ch3)]) (hb hby d19_32) rfl rfl _ (pw_iinc X11.here hx (l' := #[.val (.ref ca), .val (.int 4), .val (.ref bb), .val (.int 4), .val (.int 4), .val (.int 3), .val (.int ch3)]) (hb hby d19_35) rfl rfl _ (pw_iinc X11.here hx (l' := #[.val (.ref ca), .val (.int 4), .val (.ref bb), .val (.int 4), .val (.int 4), .val (.int 4), .val (.int ch3)]) (hb hby d19_38) rfl rfl _ (pw_goto X11.here hx (pc' := 3) (hb hby d19_41) (by decide) (by decide) _ (pw_iload X11.here hx (hb hby d19_3) rfl _ (pw_iload X11.here hx (hb hby d19_5) rfl _ k)))))) ?_
  refine Goes.step (fun _ k => pw_icmpYes X11.here hx (pc' := 44) (hb hby d19_7) (flt (by decide)).2.1 (by decide) (by decide) _ (pw_iload X11.here hx (hb hby d19_44) rfl _ k)) ?_
  exact Goes.retI X11 hx e11 Bd.returns hlk (hb hby d19_46) (by decide) (by decide) (⟨rfl, N11, K_11, V11⟩)
theorem ef_rmC3_4 (m : MethodId) (x0 : Addr) (x1 : Int32) (x2 : Int32) : entryFrame m #[(.ref x0), (.int x1), (.int x2)] 6 = mkF m 0 #[.val (.ref x0), .val (.int x1), .val (.int x2), .unset, .unset, .unset] [] := by first | (simp [entryFrame, mkF, argsToLocals, Value.category]; done) | rfl
def QC3_4 (Z : State) (ca : Addr) (kc : ClassId) (ch0 : Int32) (ch1 : Int32) (ch2 : Int32) (ch3 : Int32) (h0 : Heap) (n0 : Nat) (v : Option Value) (h : Heap) (L : List Loc) : Prop := ∃ (b : Addr) (k : ClassId), v = some (.ref b) ∧ Fr n0 L ∧ Keep h0 h [] ∧ n0 ≤ b ∧ h0.size ≤ b ∧ Arv Z h b k .byte (4 : Int32) [(.int (own_b ch0)), (.int (own_b ch1)), (.int (own_b ch2)), (.int (own_b ch3))] (.int 0)
set_option maxRecDepth 65536 in
set_option maxHeartbeats 40000000 in
theorem rmC3_4 (l : Launch) (Z : State) (a0 : Array Value) (hw : ∀ d ∈ tables_1, d.before a0 Z = true) (ws : List Jvm.Cond) (ca : Addr) (kc : ClassId) (ch0 : Int32) (ch1 : Int32) (ch2 : Int32) (ch3 : Int32) (h0 : Heap) (n0 : Nat) (O0 : Old Z n0 h0) (Vc : Arv Z h0 ca kc .char (4 : Int32) [.int ch0, .int ch1, .int ch2, .int ch3] (.int (0 : Int32))) (hk0 : own_ok ch0) (hk1 : own_ok ch1) (hk2 : own_ok ch2) (hk3 : own_ok ch3) :
    MetFree l (⟨"java/lang/StringUTF16", "compress", "([CII)[B"⟩ : MethodName) (head1 (Jvm.Cond.code (⟨"java/lang/StringUTF16", "compress", "([CII)[B"⟩ : MethodName) jdk_52_method_16_code 6 (some (.array .byte)) :: ws) ({ frames := 1, cells := 1, slots := 4, locals := 18 } : Room)) (fun a U => a = #[(.ref ca), (.int 0), (.int 4)] ∧ Z.Warmed39 U.vm ∧ U.heap = h0) (fun _ _ _ _ _ => True) (fun _ U o U' => ∃ v L, o = .returned v ∧ QC3_4 Z ca kc ch0 ch1 ch2 ch3 h0 n0 v U'.heap L ∧ FrameEnd U o U' L ({ frames := 1, cells := 1, slots := 4, locals := 18 } : Room).cells ({ frames := 1, cells := 1, slots := 4, locals := 18 } : Room).slots) := by
  refine MetFree.of_bodySF (plainFor_of_name pn_StringUTF16) hisR ?_
  intro p e s m args below meth c s₁ Bd hml0 hP hK
  obtain ⟨rfl, hZ, hh⟩ := hP
  have hx := Bd.exec
  have hby := Bd.bytes
  have hlk : meth.locks = false := BodyLoose.notSynchronized Bd
  have hml : c.maxLocals = 6 := hml0
  have hown : s.vm.findClass "java/lang/StringUTF16" = some m.cls := findClass_of_methodNamed Bd.named
  have hnm := (name_of_methodNamed Bd.named Bd.method).1
  have X0 : Stand p l e ({ frames := 1, cells := 1, slots := 4, locals := 18 } : Room) s m #[(.ref ca), (.int 0), (.int 4)] below meth c s₁ [] 0 0 := Stand.of_body Bd
  have e0 : s₁.heap = h0 := by rw [← hh, Bd.state]; rfl
  have N0 := Fr.nil n0
  show Goes p e below s (QC3_4 Z ca kc ch0 ch1 ch2 ch3 h0 n0) ({ frames := 1, cells := 1, slots := 4, locals := 18 } : Room).cells ({ frames := 1, cells := 1, slots := 4, locals := 18 } : Room).slots (s₁.setTop (entryFrame m #[(.ref ca), (.int 0), (.int 4)] 6))
  refine Goes.enter (g' := (mkF m 0 #[.val (.ref ca), .val (.int 0), .val (.int 4), .unset, .unset, .unset] [])) (ef_rmC3_4 m ca ((0 : Int32)) ((4 : Int32))) ?_
  refine Goes.step (fun _ k => pw_iloadN X0.here hx (hb hby d18_0) rfl _ k) ?_
  obtain ⟨T1, h1, k1, X1, e1, E1, A1, st1⟩ := newP (aty := .byte) X0 hx hZ (own_w20 hw) e0 (g := (mkF m 1 #[.val (.ref ca), .val (.int 0), .val (.int 4), .unset, .unset, .unset] [(.int 4)])) rfl (hb hby d18_1) rfl (by decide) (cap := 4) (by decide) (by decide) (by decide) (by decide)
  obtain ⟨b1, g1⟩ : ∃ z, z = h0.size := ⟨_, rfl⟩
  rw [← g1] at A1 st1
  have ne_ca_b1 : ca ≠ b1 := Nat.ne_of_lt (Nat.lt_of_lt_of_le Vc.lt (Nat.le_of_eq g1.symm))
  have g_b1 : n0 ≤ b1 := Nat.le_trans (own_z O0) (Nat.le_of_eq g1.symm)
  have O_1 := O0.ext E1
  have sz_b1 : h0.size ≤ b1 := Nat.le_trans (Keep.refl h0 []).1 (Nat.le_of_eq g1.symm)
  have K_1 := (Keep.refl h0 []).ext E1
  have V_b1 : Arv Z h1 b1 k1 .byte (4 : Int32) [(.int 0), (.int 0), (.int 0), (.int 0)] (.int 0) := (Arv.new A1 (by decide)).pad (pad_rep [] (.int 0) 4)
  refine Goes.step (B := T1.setTop (mkF m 3 #[.val (.ref ca), .val (.int 0), .val (.int 4), .unset, .unset, .unset] [(.ref b1)])) st1 ?_
  refine Goes.step (fun _ k => pw_astoreN X1.here hx (l' := #[.val (.ref ca), .val (.int 0), .val (.int 4), .val (.ref b1), .unset, .unset]) (hb hby d18_3) rfl rfl _ (pw_aloadN X1.here hx (hb hby d18_4) rfl rfl _ (pw_iloadN X1.here hx (hb hby d18_5) rfl _ (pw_aloadN X1.here hx (hb hby d18_6) rfl rfl _ (pw_iconst X1.here hx (v := (0 : Int32)) (hb hby d18_7) rfl _ (pw_iloadN X1.here hx (hb hby d18_8) rfl _ k)))))) ?_
  have f3 := (Vc.ext E1)
  obtain ⟨_, _, ⟨T2, L2, k2, n2⟩, -, X2, ⟨Lc2, hQ2, l2, y2, z2⟩, st2⟩ := Jvm.LawKit.callS X1 hx (y := (⟨"java/lang/StringUTF16", "compress", "([CI[BII)I"⟩ : MethodName)) hown (mvT hZ (own_w87 hw)) (mvT hZ (own_w88 hw)) (mvT hZ (own_w85 hw)) (mvT hZ (own_w89 hw)) (by decide) (backOf (W := 0) (rmC5_4 l Z a0 hw [] ca kc b1 k1 ch0 ch1 ch2 ch3 h1 n0 O_1 f3 V_b1 g_b1 ne_ca_b1 hk0 hk1 hk2 hk3) hZ (own_w89 hw) (own_w85 hw) (by decide) (by decide)) (g := (mkF m 9 #[.val (.ref ca), .val (.int 0), .val (.int 4), .val (.ref b1), .unset, .unset] [(.int 4), (.int 0), (.ref b1), (.int 0), (.ref ca)])) rfl (by rw [hml]; rfl) (argsL := [(.ref ca), (.int 0), (.ref b1), (.int 0), (.int 4)]) (rest := []) (lenOf pd_1 rfl) rfl (by show 2 * 0 + _ ≤ _; exact Nat.le_of_eq rfl) (hb hby d18_9) (fun _ _ => ⟨rfl, e1, (by decide : 1 + 0 ≤ _), (by decide : 4 + 0 ≤ _)⟩)
  dsimp only [Pt.U, Pt.locs, Pt.cells, Pt.slots] at X2 l2 y2 z2 st2 hQ2
  subst l2 y2 z2
  obtain ⟨rfl, Nq2, Kp2, Vq2⟩ := hQ2
  have O_2 := O_1.keep Kp2 (allS g_b1 all0)
  have K_2 := K_1.trans Kp2 (allS (P := fun x => x ∈ _ ∨ _) (Or.inr sz_b1) all0)
  have N2 := Fr.app N0 Nq2
  refine Goes.step (B := T2.setTop (mkF m 12 #[.val (.ref ca), .val (.int 0), .val (.int 4), .val (.ref b1), .unset, .unset] [(.int 4)])) st2 ?_
  refine Goes.step (fun _ k => pw_istore X2.here hx (l' := #[.val (.ref ca), .val (.int 0), .val (.int 4), .val (.ref b1), .val (.int 4), .unset]) (hb hby d18_12) rfl _ (pw_iload X2.here hx (hb hby d18_14) rfl _ (pw_iloadN X2.here hx (hb hby d18_16) rfl _ (pw_icmpYes X2.here hx (pc' := 57) (hb hby d18_17) (teq (by decide)).1 (by decide) (by decide) _ (pw_aloadN X2.here hx (hb hby d18_57) rfl rfl _ k))))) ?_
  exact Goes.retA X2 hx rfl Bd.returns rfl rfl hlk (hb hby d18_58) (by decide) (by decide) (⟨b1, k1, rfl, N2, K_2, g_b1, sz_b1, Vq2⟩)
theorem ef_rmCF_4 (m : MethodId) (x0 : Addr) (x1 : Int32) : entryFrame m #[(.ref x0), (.int x1)] 2 = mkF m 0 #[.val (.ref x0), .val (.int x1)] [] := by first | (simp [entryFrame, mkF, argsToLocals, Value.category]; done) | rfl
def QCF_4 (Z : State) (bb : Addr) (kb : ClassId) (ls : List Value) (h0 : Heap) (n0 : Nat) (v : Option Value) (h : Heap) (L : List Loc) : Prop := v = some (.int 0) ∧ Fr n0 L ∧ h = h0
set_option maxRecDepth 65536 in
set_option maxHeartbeats 40000000 in
theorem rmCF_4 (l : Launch) (Z : State) (a0 : Array Value) (hw : ∀ d ∈ tables_1, d.before a0 Z = true) (ws : List Jvm.Cond) (bb : Addr) (kb : ClassId) (ls : List Value) (h0 : Heap) (n0 : Nat) (O0 : Old Z n0 h0) (Vb : Arv Z h0 bb kb .byte (4 : Int32) ls (.int (0 : Int32))) :
    MetFree l (⟨"java/lang/StringUTF16", "coderFromArrayLen", "([BI)B"⟩ : MethodName) (head1 (Jvm.Cond.code (⟨"java/lang/StringUTF16", "coderFromArrayLen", "([BI)B"⟩ : MethodName) jdk_52_method_15_code 2 (some .byte) :: ws) ({ frames := 0, cells := 0, slots := 0, locals := 0 } : Room)) (fun a U => a = #[(.ref bb), (.int 4)] ∧ Z.Warmed39 U.vm ∧ U.heap = h0) (fun _ _ _ _ _ => True) (fun _ U o U' => ∃ v L, o = .returned v ∧ QCF_4 Z bb kb ls h0 n0 v U'.heap L ∧ FrameEnd U o U' L ({ frames := 0, cells := 0, slots := 0, locals := 0 } : Room).cells ({ frames := 0, cells := 0, slots := 0, locals := 0 } : Room).slots) := by
  refine MetFree.of_bodySF (plainFor_of_name pn_StringUTF16) hisR ?_
  intro p e s m args below meth c s₁ Bd hml0 hP hK
  obtain ⟨rfl, hZ, hh⟩ := hP
  have hx := Bd.exec
  have hby := Bd.bytes
  have hlk : meth.locks = false := BodyLoose.notSynchronized Bd
  have hml : c.maxLocals = 2 := hml0
  have hown : s.vm.findClass "java/lang/StringUTF16" = some m.cls := findClass_of_methodNamed Bd.named
  have hnm := (name_of_methodNamed Bd.named Bd.method).1
  have X0 : Stand p l e ({ frames := 0, cells := 0, slots := 0, locals := 0 } : Room) s m #[(.ref bb), (.int 4)] below meth c s₁ [] 0 0 := Stand.of_body Bd
  have e0 : s₁.heap = h0 := by rw [← hh, Bd.state]; rfl
  have N0 := Fr.nil n0
  show Goes p e below s (QCF_4 Z bb kb ls h0 n0) ({ frames := 0, cells := 0, slots := 0, locals := 0 } : Room).cells ({ frames := 0, cells := 0, slots := 0, locals := 0 } : Room).slots (s₁.setTop (entryFrame m #[(.ref bb), (.int 4)] 2))
  refine Goes.enter (g' := (mkF m 0 #[.val (.ref bb), .val (.int 4)] [])) (ef_rmCF_4 m bb ((4 : Int32))) ?_
  refine Goes.step (fun _ k => pw_iloadN X0.here hx (hb hby d20_0) rfl _ (pw_aloadN X0.here hx (hb hby d20_1) rfl rfl _ k)) ?_
  obtain ⟨c1, Ar1, -, Sz1, Nn1, -, -⟩ := id Vb
  have len1 := X0.arraylength hx (by rw [e0]; exact Ar1.1) (State.isArrayOf_alike hZ.alike Ar1.2.1) (g := (mkF m 2 #[.val (.ref bb), .val (.int 4)] [(.ref bb), (.int 4)])) rfl rfl (hb hby d20_2)
  rw [len_of Sz1 Nn1] at len1
  refine Goes.step (B := s₁.setTop (mkF m 3 #[.val (.ref bb), .val (.int 4)] [(.int 4), (.int 4)])) len1 ?_
  refine Goes.step (B := s₁.setTop (mkF m 4 #[.val (.ref bb), .val (.int 4)] [(.int 0)])) (fun _ k => XS.isub X0.here hx rfl (hb hby d20_3) rfl k) ?_
  refine Goes.step (fun _ k => pw_bipush X0.here hx (v := (31 : Int32)) (hb hby d20_4) rfl _ k) ?_
  refine Goes.step (B := s₁.setTop (mkF m 7 #[.val (.ref bb), .val (.int 4)] [(.int 0)])) (fun _ k => XS.iushr X0.here hx rfl (hb hby d20_6) rfl k) ?_
  refine Goes.step (B := s₁.setTop (mkF m 8 #[.val (.ref bb), .val (.int 4)] [(.int 0)])) (fun _ k => XS.i2b X0.here hx rfl (hb hby d20_7) rfl k) ?_
  exact Goes.retN X0 hx e0 (t := .byte) Bd.returns (by simp) hlk (hb hby d20_8) (by decide) (by decide) (⟨rfl, N0, rfl⟩)
theorem ef_rmSJ_4 (m : MethodId) (x0 : Addr) (x1 : Addr) (x2 : Int32) (x3 : Int32) : entryFrame m #[(.ref x0), (.ref x1), (.int x2), (.int x3), .null] 6 = mkF m 0 #[.val (.ref x0), .val (.ref x1), .val (.int x2), .val (.int x3), .val .null, .unset] [] := by first | (simp [entryFrame, mkF, argsToLocals, Value.category]; done) | rfl
def QSJ_4 (Z : State) (a0r : Addr) (ca : Addr) (kc : ClassId) (cs : Int32) (ch0 : Int32) (ch1 : Int32) (ch2 : Int32) (ch3 : Int32) (h0 : Heap) (n0 : Nat) (v : Option Value) (h : Heap) (L : List Loc) : Prop := v = none ∧ Fr n0 L ∧ Keep h0 h [a0r] ∧ Exa Z h a0r "java/lang/String" ∧ ∃ (vb : Addr) (kv : ClassId), Fld Z h a0r "java/lang/String" "value" "[B" (.ref vb) ∧ Fld Z h a0r "java/lang/String" "coder" "B" (.int (0 : Int32)) ∧ Arv Z h vb kv .byte (4 : Int32) [.int (own_b ch0), .int (own_b ch1), .int (own_b ch2), .int (own_b ch3)] (.int (0 : Int32))
set_option maxRecDepth 65536 in
set_option maxHeartbeats 40000000 in
theorem rmSJ_4 (l : Launch) (Z : State) (a0 : Array Value) (hw : ∀ d ∈ tables_1, d.before a0 Z = true) (ws : List Jvm.Cond) (a0r : Addr) (ca : Addr) (kc : ClassId) (cs : Int32) (ch0 : Int32) (ch1 : Int32) (ch2 : Int32) (ch3 : Int32) (h0 : Heap) (n0 : Nat) (O0 : Old Z n0 h0) (Er : Exa Z h0 a0r "java/lang/String") (gr : n0 ≤ a0r) (Fr_value : Fld Z h0 a0r "java/lang/String" "value" "[B" .null) (Fr_coder : Fld Z h0 a0r "java/lang/String" "coder" "B" (.int (0 : Int32))) (Vc : Arv Z h0 ca kc .char (4 : Int32) [.int ch0, .int ch1, .int ch2, .int ch3] (.int (0 : Int32))) (Sc : Sta Z h0 "java/lang/String" "COMPACT_STRINGS" "Z" (.int cs)) (hcs : ¬ cs = (0 : Int32)) (hk0 : own_ok ch0) (hk1 : own_ok ch1) (hk2 : own_ok ch2) (hk3 : own_ok ch3) :
    MetFree l (⟨"java/lang/String", "<init>", "([CIILjava/lang/Void;)V"⟩ : MethodName) (head1 (Jvm.Cond.code (⟨"java/lang/String", "<init>", "([CIILjava/lang/Void;)V"⟩ : MethodName) jdk_42_method_149_code 6 none :: ws) ({ frames := 2, cells := 1, slots := 4, locals := 35 } : Room)) (fun a U => a = #[(.ref a0r), (.ref ca), (.int 0), (.int 4), .null] ∧ Z.Warmed39 U.vm ∧ U.heap = h0) (fun _ _ _ _ _ => True) (fun _ U o U' => ∃ v L, o = .returned v ∧ QSJ_4 Z a0r ca kc cs ch0 ch1 ch2 ch3 h0 n0 v U'.heap L ∧ FrameEnd U o U' L ({ frames := 2, cells := 1, slots := 4, locals := 35 } : Room).cells ({ frames := 2, cells := 1, slots := 4, locals := 35 } : Room).slots) := by
  refine MetFree.of_bodySF (plainFor_of_name pn_String) hisR ?_
  intro p e s m args below meth c s₁ Bd hml0 hP hK
  obtain ⟨rfl, hZ, hh⟩ := hP
  have hx := Bd.exec
  have hby := Bd.bytes
  have hlk : meth.locks = false := BodyLoose.notSynchronized Bd
  have hml : c.maxLocals = 6 := hml0
  have hown : s.vm.findClass "java/lang/String" = some m.cls := findClass_of_methodNamed Bd.named
  have hnm := (name_of_methodNamed Bd.named Bd.method).1
  have X0 : Stand p l e ({ frames := 2, cells := 1, slots := 4, locals := 35 } : Room) s m #[(.ref a0r), (.ref ca), (.int 0), (.int 4), .null] below meth c s₁ [] 0 0 := Stand.of_body Bd
  have e0 : s₁.heap = h0 := by rw [← hh, Bd.state]; rfl
  have N0 := Fr.nil n0
  show Goes p e below s (QSJ_4 Z a0r ca kc cs ch0 ch1 ch2 ch3 h0 n0) ({ frames := 2, cells := 1, slots := 4, locals := 35 } : Room).cells ({ frames := 2, cells := 1, slots := 4, locals := 35 } : Room).slots (s₁.setTop (entryFrame m #[(.ref a0r), (.ref ca), (.int 0), (.int 4), .null] 6))
  refine Goes.enter (g' := (mkF m 0 #[.val (.ref a0r), .val (.ref ca), .val (.int 0), .val (.int 4), .val .null, .unset] [])) (ef_rmSJ_4 m a0r ca ((0 : Int32)) ((4 : Int32))) ?_
  refine Goes.step (fun _ k => pw_aloadN X0.here hx (hb hby d3_0) rfl rfl _ k) ?_
  obtain ⟨T1, X1, e1, st1⟩ := initO X0 hx hZ hown (own_w16 hw) (own_w17 hw) (own_w18 hw) e0 (g := (mkF m 1 #[.val (.ref a0r), .val (.ref ca), .val (.int 0), .val (.int 4), .val .null, .unset] [(.ref a0r)])) rfl (by rw [hml]; rfl) rfl (hb hby d3_1) (by decide) (W := 0) (by show 2 * 0 + _ ≤ _; exact Nat.le_of_eq rfl) (by decide)
  refine Goes.step (B := T1.setTop (mkF m 4 #[.val (.ref a0r), .val (.ref ca), .val (.int 0), .val (.int 4), .val .null, .unset] [])) st1 ?_
  refine Goes.step (fun _ k => pw_iloadN X1.here hx (hb hby d3_4) rfl _ (pw_ifYes X1.here hx (pc' := 27) (hb hby d3_5) ((if0 _ _).trans (feq (by decide)).2) (by decide) (by decide) _ k)) ?_
  obtain ⟨T2, X2, e2, st2⟩ := getS2 X1 hx hZ hown (host := "") (Or.inl (own_w46 hw)) Via.refl e1 Sc (g := (mkF m 27 #[.val (.ref a0r), .val (.ref ca), .val (.int 0), .val (.int 4), .val .null, .unset] [])) rfl (hb hby d3_27)
  refine Goes.step (B := T2.setTop (mkF m 30 #[.val (.ref a0r), .val (.ref ca), .val (.int 0), .val (.int 4), .val .null, .unset] [(.int cs)])) st2 ?_
  refine Goes.step (fun _ k => pw_ifNo X2.here hx (hb hby d3_30) ((if0 _ _).trans (feq hcs).1) _ (pw_aloadN X2.here hx (hb hby d3_33) rfl rfl _ (pw_iloadN X2.here hx (hb hby d3_34) rfl _ (pw_iloadN X2.here hx (hb hby d3_35) rfl _ k)))) ?_
  have lt_a0r_3 := Er.lt
  have lt_ca_3 := Vc.lt
  obtain ⟨_, _, ⟨T3, L3, k3, n3⟩, -, X3, ⟨Lc3, hQ3, l3, y3, z3⟩, st3⟩ := Jvm.LawKit.callS X2 hx (y := (⟨"java/lang/StringUTF16", "compress", "([CII)[B"⟩ : MethodName)) hown (mvT hZ (own_w83 hw)) (mvT hZ (own_w84 hw)) (mvT hZ (own_w85 hw)) (mvT hZ (own_w86 hw)) (by decide) (backOf (W := 0) (rmC3_4 l Z a0 hw [] ca kc ch0 ch1 ch2 ch3 h0 n0 O0 Vc hk0 hk1 hk2 hk3) hZ (own_w86 hw) (own_w85 hw) (by decide) (by decide)) (g := (mkF m 36 #[.val (.ref a0r), .val (.ref ca), .val (.int 0), .val (.int 4), .val .null, .unset] [(.int 4), (.int 0), (.ref ca)])) rfl (by rw [hml]; rfl) (argsL := [(.ref ca), (.int 0), (.int 4)]) (rest := []) (lenOf pd_2 rfl) rfl (by show 2 * 0 + _ ≤ _; exact Nat.le_of_eq rfl) (hb hby d3_36) (fun _ _ => ⟨rfl, e2, (by decide : 0 + 1 ≤ _), (by decide : 0 + 4 ≤ _)⟩)
  dsimp only [Pt.U, Pt.locs, Pt.cells, Pt.slots] at X3 l3 y3 z3 st3 hQ3
  subst l3 y3 z3
  obtain ⟨fb3, fk3, rfl, Nq3, Kp3, gb3, sb3, Vb3⟩ := hQ3
  have ne_a0r_fb3 : a0r ≠ fb3 := Nat.ne_of_lt (Nat.lt_of_lt_of_le lt_a0r_3 sb3)
  have ne_ca_fb3 : ca ≠ fb3 := Nat.ne_of_lt (Nat.lt_of_lt_of_le lt_ca_3 sb3)
  have O_3 := O0.keep Kp3 all0
  have K_3 := (Keep.refl h0 [a0r]).trans Kp3 all0
  have N3 := Fr.app N0 Nq3
  refine Goes.step (B := T3.setTop (mkF m 39 #[.val (.ref a0r), .val (.ref ca), .val (.int 0), .val (.int 4), .val .null, .unset] [(.ref fb3)])) st3 ?_
  refine Goes.step (fun _ k => pw_astore X3.here hx (l' := #[.val (.ref a0r), .val (.ref ca), .val (.int 0), .val (.int 4), .val .null, .val (.ref fb3)]) (hb hby d3_39) rfl rfl _ (pw_aloadN X3.here hx (hb hby d3_41) rfl rfl _ (pw_aload X3.here hx (hb hby d3_42) rfl rfl _ (pw_iloadN X3.here hx (hb hby d3_44) rfl _ k)))) ?_
  obtain ⟨_, _, ⟨T4, L4, k4, n4⟩, -, X4, ⟨Lc4, hQ4, l4, y4, z4⟩, st4⟩ := Jvm.LawKit.callS X3 hx (y := (⟨"java/lang/StringUTF16", "coderFromArrayLen", "([BI)B"⟩ : MethodName)) hown (mvT hZ (own_w90 hw)) (mvT hZ (own_w91 hw)) (mvT hZ (own_w85 hw)) (mvT hZ (own_w92 hw)) (by decide) (backOf (W := 1) (rmCF_4 l Z a0 hw [] fb3 fk3 [(.int (own_b ch0)), (.int (own_b ch1)), (.int (own_b ch2)), (.int (own_b ch3))] T3.heap n0 O_3 Vb3) hZ (own_w92 hw) (own_w85 hw) (by decide) (by decide)) (g := (mkF m 45 #[.val (.ref a0r), .val (.ref ca), .val (.int 0), .val (.int 4), .val .null, .val (.ref fb3)] [(.int 4), (.ref fb3), (.ref a0r)])) rfl (by rw [hml]; rfl) (argsL := [(.ref fb3), (.int 4)]) (rest := [(.ref a0r)]) (lenOf pd_3 rfl) rfl (by show 2 * 0 + _ ≤ _; exact Nat.le_of_eq rfl) (hb hby d3_45) (fun _ _ => ⟨rfl, rfl, (by decide : 1 + 0 ≤ _), (by decide : 4 + 0 ≤ _)⟩)
  dsimp only [Pt.U, Pt.locs, Pt.cells, Pt.slots] at X4 l4 y4 z4 st4 hQ4
  subst l4 y4 z4
  obtain ⟨rfl, Nq4, eh4⟩ := hQ4
  have N4 := Fr.app N3 Nq4
  refine Goes.step (B := T4.setTop (mkF m 48 #[.val (.ref a0r), .val (.ref ca), .val (.int 0), .val (.int 4), .val .null, .val (.ref fb3)] [(.int 0), (.ref a0r)])) st4 ?_
  have f5 := (Er.keep Kp3)
  have f6 := (Fr_coder.keep Kp3 nin0)
  obtain ⟨T7, h7, X7, e7, W7, st7⟩ := putFN X4 hx hZ hown (own_w26 hw) Via.refl eh4 f6 f5 (Or.inr ⟨(own_w22 hw), rfl, hnm⟩) (own_w7 hw) (ty := .byte) (v' := (.int 0)) (by decide) rfl (by decide) (g := (mkF m 48 #[.val (.ref a0r), .val (.ref ca), .val (.int 0), .val (.int 4), .val .null, .val (.ref fb3)] [(.int 0), (.ref a0r)])) rfl rfl (hb hby d3_48)
  have Fw7 := f6.same W7
  have N7 := Fr.snoc X7 N4 gr
  have O_7 := O_3.wr W7 gr
  have K_7 := K_3.wr W7 (Or.inl (List.mem_of_getElem? (i := 0) rfl))
  refine Goes.step (B := T7.setTop (mkF m 51 #[.val (.ref a0r), .val (.ref ca), .val (.int 0), .val (.int 4), .val .null, .val (.ref fb3)] [])) st7 ?_
  refine Goes.step (fun _ k => pw_aloadN X7.here hx (hb hby d3_51) rfl rfl _ (pw_aload X7.here hx (hb hby d3_52) rfl rfl _ k)) ?_
  have f8 := (f5.wr W7)
  have f9 := ((Fr_value.keep Kp3 nin0).other W7 (Or.inr (slot_ne (Or.inr (own_w21 hw)) (Or.inr (own_w22 hw)) (by decide) (t := (.array .byte)) (t' := .byte) (by decide) (by decide))))
  obtain ⟨T10, h10, X10, e10, W10, st10⟩ := putF X7 hx hZ hown (host := "") (Or.inl (own_w25 hw)) Via.refl e7 f9 f8 (Or.inr ⟨(own_w21 hw), rfl, hnm⟩) (own_w7 hw) (ty := (.array .byte)) (by decide) rfl rfl (g := (mkF m 54 #[.val (.ref a0r), .val (.ref ca), .val (.int 0), .val (.int 4), .val .null, .val (.ref fb3)] [(.ref fb3), (.ref a0r)])) rfl rfl (hb hby d3_54)
  have Fw10 := f9.same W10
  have N10 := Fr.snoc X10 N7 gr
  have O_10 := O_7.wr W10 gr
  have K_10 := K_7.wr W10 (Or.inl (List.mem_of_getElem? (i := 0) rfl))
  refine Goes.step (B := T10.setTop (mkF m 57 #[.val (.ref a0r), .val (.ref ca), .val (.int 0), .val (.int 4), .val .null, .val (.ref fb3)] [])) st10 ?_
  have f11 := (f8.wr W10)
  have f12 := (Fw7.other W10 (Or.inr (slot_ne (Or.inr (own_w22 hw)) (Or.inr (own_w21 hw)) (by decide) (t := .byte) (t' := (.array .byte)) (by decide) (by decide))))
  have f13 := ((Vb3.other W7 (Ne.symm ne_a0r_fb3)).other W10 (Ne.symm ne_a0r_fb3))
  exact Goes.retV X10 hx e10 Bd.returns hlk (hb hby d3_57) (by decide) (by decide) (⟨rfl, N10, K_10, f11, fb3, fk3, Fw10, f12, f13⟩)
theorem ef_rmSI_4 (m : MethodId) (x0 : Addr) (x1 : Addr) : entryFrame m #[(.ref x0), (.ref x1)] 2 = mkF m 0 #[.val (.ref x0), .val (.ref x1)] [] := by first | (simp [entryFrame, mkF, argsToLocals, Value.category]; done) | rfl
def QSI_4 (Z : State) (a0r : Addr) (ca : Addr) (kc : ClassId) (cs : Int32) (ch0 : Int32) (ch1 : Int32) (ch2 : Int32) (ch3 : Int32) (h0 : Heap) (n0 : Nat) (v : Option Value) (h : Heap) (L : List Loc) : Prop := v = none ∧ Fr n0 L ∧ Keep h0 h [a0r] ∧ Exa Z h a0r "java/lang/String" ∧ ∃ (vb : Addr) (kv : ClassId), Fld Z h a0r "java/lang/String" "value" "[B" (.ref vb) ∧ Fld Z h a0r "java/lang/String" "coder" "B" (.int (0 : Int32)) ∧ Arv Z h vb kv .byte (4 : Int32) [.int (own_b ch0), .int (own_b ch1), .int (own_b ch2), .int (own_b ch3)] (.int (0 : Int32))
set_option maxRecDepth 65536 in
set_option maxHeartbeats 40000000 in
theorem rmSI_4 (l : Launch) (Z : State) (a0 : Array Value) (hw : ∀ d ∈ tables_1, d.before a0 Z = true) (ws : List Jvm.Cond) (a0r : Addr) (ca : Addr) (kc : ClassId) (cs : Int32) (ch0 : Int32) (ch1 : Int32) (ch2 : Int32) (ch3 : Int32) (h0 : Heap) (n0 : Nat) (O0 : Old Z n0 h0) (Er : Exa Z h0 a0r "java/lang/String") (gr : n0 ≤ a0r) (Fr_value : Fld Z h0 a0r "java/lang/String" "value" "[B" .null) (Fr_coder : Fld Z h0 a0r "java/lang/String" "coder" "B" (.int (0 : Int32))) (Vc : Arv Z h0 ca kc .char (4 : Int32) [.int ch0, .int ch1, .int ch2, .int ch3] (.int (0 : Int32))) (Sc : Sta Z h0 "java/lang/String" "COMPACT_STRINGS" "Z" (.int cs)) (hcs : ¬ cs = (0 : Int32)) (hk0 : own_ok ch0) (hk1 : own_ok ch1) (hk2 : own_ok ch2) (hk3 : own_ok ch3) :
    MetFree l (⟨"java/lang/String", "<init>", "([C)V"⟩ : MethodName) (head1 (Jvm.Cond.code (⟨"java/lang/String", "<init>", "([C)V"⟩ : MethodName) jdk_42_method_3_code 2 none :: ws) ({ frames := 3, cells := 1, slots := 4, locals := 52 } : Room)) (fun a U => a = #[(.ref a0r), (.ref ca)] ∧ Z.Warmed39 U.vm ∧ U.heap = h0) (fun _ _ _ _ _ => True) (fun _ U o U' => ∃ v L, o = .returned v ∧ QSI_4 Z a0r ca kc cs ch0 ch1 ch2 ch3 h0 n0 v U'.heap L ∧ FrameEnd U o U' L ({ frames := 3, cells := 1, slots := 4, locals := 52 } : Room).cells ({ frames := 3, cells := 1, slots := 4, locals := 52 } : Room).slots) := by
  refine MetFree.of_bodySF (plainFor_of_name pn_String) hisR ?_
  intro p e s m args below meth c s₁ Bd hml0 hP hK
  obtain ⟨rfl, hZ, hh⟩ := hP
  have hx := Bd.exec
  have hby := Bd.bytes
  have hlk : meth.locks = false := BodyLoose.notSynchronized Bd
  have hml : c.maxLocals = 2 := hml0
  have hown : s.vm.findClass "java/lang/String" = some m.cls := findClass_of_methodNamed Bd.named
  have hnm := (name_of_methodNamed Bd.named Bd.method).1
  have X0 : Stand p l e ({ frames := 3, cells := 1, slots := 4, locals := 52 } : Room) s m #[(.ref a0r), (.ref ca)] below meth c s₁ [] 0 0 := Stand.of_body Bd
  have e0 : s₁.heap = h0 := by rw [← hh, Bd.state]; rfl
  have N0 := Fr.nil n0
  show Goes p e below s (QSI_4 Z a0r ca kc cs ch0 ch1 ch2 ch3 h0 n0) ({ frames := 3, cells := 1, slots := 4, locals := 52 } : Room).cells ({ frames := 3, cells := 1, slots := 4, locals := 52 } : Room).slots (s₁.setTop (entryFrame m #[(.ref a0r), (.ref ca)] 2))
  refine Goes.enter (g' := (mkF m 0 #[.val (.ref a0r), .val (.ref ca)] [])) (ef_rmSI_4 m a0r ca) ?_
  refine Goes.step (fun _ k => pw_aloadN X0.here hx (hb hby d2_0) rfl rfl _ (pw_aloadN X0.here hx (hb hby d2_1) rfl rfl _ (pw_iconst X0.here hx (v := (0 : Int32)) (hb hby d2_2) rfl _ (pw_aloadN X0.here hx (hb hby d2_3) rfl rfl _ k)))) ?_
  obtain ⟨c1, Ar1, -, Sz1, Nn1, -, -⟩ := id Vc
  have len1 := X0.arraylength hx (by rw [e0]; exact Ar1.1) (State.isArrayOf_alike hZ.alike Ar1.2.1) (g := (mkF m 4 #[.val (.ref a0r), .val (.ref ca)] [(.ref ca), (.int 0), (.ref ca), (.ref a0r)])) rfl rfl (hb hby d2_4)
  rw [len_of Sz1 Nn1] at len1
  refine Goes.step (B := s₁.setTop (mkF m 5 #[.val (.ref a0r), .val (.ref ca)] [(.int 4), (.int 0), (.ref ca), (.ref a0r)])) len1 ?_
  refine Goes.step (fun _ k => pw_aconstNull X0.here hx (hb hby d2_5) _ k) ?_
  obtain ⟨_, _, ⟨T2, L2, k2, n2⟩, -, X2, ⟨Lc2, hQ2, l2, y2, z2⟩, st2⟩ := X0.specialBack hx (y := (⟨"java/lang/String", "<init>", "([CIILjava/lang/Void;)V"⟩ : MethodName)) rfl hown (mvT hZ (own_w12 hw)) (mvT hZ (own_w13 hw)) (mvT hZ (own_w15 hw)) (by decide) (backOf (W := 0) (rmSJ_4 l Z a0 hw [] a0r ca kc cs ch0 ch1 ch2 ch3 h0 n0 O0 Er gr Fr_value Fr_coder Vc Sc hcs hk0 hk1 hk2 hk3) hZ (own_w15 hw) (own_w8 hw) (by decide) (by decide)) (g := (mkF m 6 #[.val (.ref a0r), .val (.ref ca)] [.null, (.int 4), (.int 0), (.ref ca), (.ref a0r)])) rfl (by rw [hml]; rfl) (Steps.refl _) (a := a0r) (argsL := [(.ref ca), (.int 0), (.int 4), .null]) (rest := []) (lenOf pd_0 rfl) rfl (by show 2 * 0 + _ ≤ _; exact Nat.le_of_eq rfl) (hb hby d2_6) (fun _ _ => ⟨rfl, e0, (by decide : 0 + 1 ≤ _), (by decide : 0 + 4 ≤ _)⟩)
  dsimp only [Pt.U, Pt.locs, Pt.cells, Pt.slots] at X2 l2 y2 z2 st2 hQ2
  subst l2 y2 z2
  obtain ⟨rfl, Nq2, Kp2, Ex2, sv2, sk2, Fsv2, Fsc2, Vsv2⟩ := hQ2
  have O_2 := O0.keep Kp2 (allS gr all0)
  have K_2 := (Keep.refl h0 [a0r]).trans Kp2 (allS (P := fun x => x ∈ _ ∨ _) (Or.inl (List.mem_of_getElem? (i := 0) rfl)) all0)
  have N2 := Fr.app N0 Nq2
  refine Goes.via (B := T2.setTop (mkF m 9 #[.val (.ref a0r), .val (.ref ca)] [])) st2 ?_
  exact Goes.retV X2 hx rfl Bd.returns hlk (hb hby d2_9) (by decide) (by decide) (⟨rfl, N2, K_2, Ex2, sv2, sk2, Fsv2, Fsc2, Vsv2⟩)
theorem d10_0 : decode jdk_42_method_152_code 0 = .ok (.getstatic 38, 3) := by decide +kernel
theorem d10_3 : decode jdk_42_method_152_code 3 = .ok (.ifCond .eq 10, 3) := by decide +kernel
theorem d10_6 : decode jdk_42_method_152_code 6 = .ok (.aload_n 0, 1) := by decide +kernel
theorem d10_7 : decode jdk_42_method_152_code 7 = .ok (.getfield 15, 3) := by decide +kernel
theorem d10_10 : decode jdk_42_method_152_code 10 = .ok (.goto 4, 3) := by decide +kernel
theorem d10_14 : decode jdk_42_method_152_code 14 = .ok (.ireturn, 1) := by decide +kernel
theorem ef_rm10 (m : MethodId) (x0 : Addr) : entryFrame m #[(.ref x0)] 1 = mkF m 0 #[.val (.ref x0)] [] := by first | (simp [entryFrame, mkF, argsToLocals, Value.category]; done) | rfl
def Q10 (Z : State) (a1 : Addr) (b1 : Addr) (k1 : ClassId) (z1 : Int32) (xs : List Int32) (cs : Int32) (h0 : Heap) (n0 : Nat) (v : Option Value) (h : Heap) (L : List Loc) : Prop := v = some (.int 0) ∧ Fr n0 L ∧ h = h0
set_option maxRecDepth 65536 in
set_option maxHeartbeats 40000000 in
theorem rm10 (l : Launch) (Z : State) (a0 : Array Value) (hw : ∀ d ∈ tables_1, d.before a0 Z = true) (ws : List Jvm.Cond) (a1 : Addr) (b1 : Addr) (k1 : ClassId) (z1 : Int32) (xs : List Int32) (cs : Int32) (h0 : Heap) (n0 : Nat) (O0 : Old Z n0 h0) (Sc : Sta Z h0 "java/lang/String" "COMPACT_STRINGS" "Z" (.int cs)) (hcs : ¬ cs = (0 : Int32)) (E1 : Exa Z h0 a1 "java/lang/String") (Fc1 : Fld Z h0 a1 "java/lang/String" "coder" "B" (.int (0 : Int32))) (Fv1 : Fld Z h0 a1 "java/lang/String" "value" "[B" (.ref b1)) (V1 : Arv Z h0 b1 k1 .byte z1 (xs.map Value.int) (.int (0 : Int32))) :
    MetFree l (⟨"java/lang/String", "coder", "()B"⟩ : MethodName) (head1 (Jvm.Cond.code (⟨"java/lang/String", "coder", "()B"⟩ : MethodName) jdk_42_method_152_code 1 (some .byte) :: ws) ({ frames := 0, cells := 0, slots := 0, locals := 0 } : Room)) (fun a U => a = #[(.ref a1)] ∧ Z.Warmed39 U.vm ∧ U.heap = h0) (fun _ _ _ _ _ => True) (fun _ U o U' => ∃ v L, o = .returned v ∧ Q10 Z a1 b1 k1 z1 xs cs h0 n0 v U'.heap L ∧ FrameEnd U o U' L ({ frames := 0, cells := 0, slots := 0, locals := 0 } : Room).cells ({ frames := 0, cells := 0, slots := 0, locals := 0 } : Room).slots) := by
  refine MetFree.of_bodySF (plainFor_of_name pn_String) hisR ?_
  intro p e s m args below meth c s₁ Bd hml0 hP hK
  obtain ⟨rfl, hZ, hh⟩ := hP
  have hx := Bd.exec
  have hby := Bd.bytes
  have hlk : meth.locks = false := BodyLoose.notSynchronized Bd
  have hml : c.maxLocals = 1 := hml0
  have hown : s.vm.findClass "java/lang/String" = some m.cls := findClass_of_methodNamed Bd.named
  have hnm := (name_of_methodNamed Bd.named Bd.method).1
  have X0 : Stand p l e ({ frames := 0, cells := 0, slots := 0, locals := 0 } : Room) s m #[(.ref a1)] below meth c s₁ [] 0 0 := Stand.of_body Bd
  have e0 : s₁.heap = h0 := by rw [← hh, Bd.state]; rfl
  have N0 := Fr.nil n0
  show Goes p e below s (Q10 Z a1 b1 k1 z1 xs cs h0 n0) ({ frames := 0, cells := 0, slots := 0, locals := 0 } : Room).cells ({ frames := 0, cells := 0, slots := 0, locals := 0 } : Room).slots (s₁.setTop (entryFrame m #[(.ref a1)] 1))
  refine Goes.enter (g' := (mkF m 0 #[.val (.ref a1)] [])) (ef_rm10 m a1) ?_
  obtain ⟨T1, X1, e1, st1⟩ := getS2 X0 hx hZ hown (host := "") (Or.inl (own_w46 hw)) Via.refl e0 Sc (g := (mkF m 0 #[.val (.ref a1)] [])) rfl (hb hby d10_0)
  refine Goes.step (B := T1.setTop (mkF m 3 #[.val (.ref a1)] [(.int cs)])) st1 ?_
  refine Goes.step (fun _ k => pw_ifNo X1.here hx (hb hby d10_3) ((if0 _ _).trans (feq hcs).1) _ (pw_aloadN X1.here hx (hb hby d10_6) rfl rfl _ k)) ?_
  obtain ⟨T2, X2, e2, st2⟩ := getF X1 hx hZ hown (host := "") (Or.inl (own_w26 hw)) Via.refl e1 Fc1 (g := (mkF m 7 #[.val (.ref a1)] [(.ref a1)])) rfl rfl (hb hby d10_7)
  refine Goes.step (B := T2.setTop (mkF m 10 #[.val (.ref a1)] [(.int 0)])) st2 ?_
  refine Goes.step (fun _ k => pw_goto X2.here hx (pc' := 14) (hb hby d10_10) (by decide) (by decide) _ k) ?_
  exact Goes.retN X2 hx e2 (t := .byte) Bd.returns (by simp) hlk (hb hby d10_14) (by decide) (by decide) (⟨rfl, N0, rfl⟩)
theorem d8_0 : decode jdk_42_method_154_code 0 = .ok (.getstatic 38, 3) := by decide +kernel
theorem d8_3 : decode jdk_42_method_154_code 3 = .ok (.ifCond .eq 14, 3) := by decide +kernel
theorem d8_6 : decode jdk_42_method_154_code 6 = .ok (.aload_n 0, 1) := by decide +kernel
theorem d8_7 : decode jdk_42_method_154_code 7 = .ok (.getfield 15, 3) := by decide +kernel
theorem d8_10 : decode jdk_42_method_154_code 10 = .ok (.ifCond .ne 7, 3) := by decide +kernel
theorem d8_13 : decode jdk_42_method_154_code 13 = .ok (.iconst 1, 1) := by decide +kernel
theorem d8_14 : decode jdk_42_method_154_code 14 = .ok (.goto 4, 3) := by decide +kernel
theorem d8_18 : decode jdk_42_method_154_code 18 = .ok (.ireturn, 1) := by decide +kernel
theorem ef_rm8 (m : MethodId) (x0 : Addr) : entryFrame m #[(.ref x0)] 1 = mkF m 0 #[.val (.ref x0)] [] := by first | (simp [entryFrame, mkF, argsToLocals, Value.category]; done) | rfl
def Q8 (Z : State) (a1 : Addr) (b1 : Addr) (k1 : ClassId) (z1 : Int32) (xs : List Int32) (cs : Int32) (h0 : Heap) (n0 : Nat) (v : Option Value) (h : Heap) (L : List Loc) : Prop := v = some (.int 1) ∧ Fr n0 L ∧ h = h0
set_option maxRecDepth 65536 in
set_option maxHeartbeats 40000000 in
theorem rm8 (l : Launch) (Z : State) (a0 : Array Value) (hw : ∀ d ∈ tables_1, d.before a0 Z = true) (ws : List Jvm.Cond) (a1 : Addr) (b1 : Addr) (k1 : ClassId) (z1 : Int32) (xs : List Int32) (cs : Int32) (h0 : Heap) (n0 : Nat) (O0 : Old Z n0 h0) (Sc : Sta Z h0 "java/lang/String" "COMPACT_STRINGS" "Z" (.int cs)) (hcs : ¬ cs = (0 : Int32)) (E1 : Exa Z h0 a1 "java/lang/String") (Fc1 : Fld Z h0 a1 "java/lang/String" "coder" "B" (.int (0 : Int32))) (Fv1 : Fld Z h0 a1 "java/lang/String" "value" "[B" (.ref b1)) (V1 : Arv Z h0 b1 k1 .byte z1 (xs.map Value.int) (.int (0 : Int32))) :
    MetFree l (⟨"java/lang/String", "isLatin1", "()Z"⟩ : MethodName) (head1 (Jvm.Cond.code (⟨"java/lang/String", "isLatin1", "()Z"⟩ : MethodName) jdk_42_method_154_code 1 (some .boolean) :: ws) ({ frames := 0, cells := 0, slots := 0, locals := 0 } : Room)) (fun a U => a = #[(.ref a1)] ∧ Z.Warmed39 U.vm ∧ U.heap = h0) (fun _ _ _ _ _ => True) (fun _ U o U' => ∃ v L, o = .returned v ∧ Q8 Z a1 b1 k1 z1 xs cs h0 n0 v U'.heap L ∧ FrameEnd U o U' L ({ frames := 0, cells := 0, slots := 0, locals := 0 } : Room).cells ({ frames := 0, cells := 0, slots := 0, locals := 0 } : Room).slots) := by
  refine MetFree.of_bodySF (plainFor_of_name pn_String) hisR ?_
  intro p e s m args below meth c s₁ Bd hml0 hP hK
  obtain ⟨rfl, hZ, hh⟩ := hP
  have hx := Bd.exec
  have hby := Bd.bytes
  have hlk : meth.locks = false := BodyLoose.notSynchronized Bd
  have hml : c.maxLocals = 1 := hml0
  have hown : s.vm.findClass "java/lang/String" = some m.cls := findClass_of_methodNamed Bd.named
  have hnm := (name_of_methodNamed Bd.named Bd.method).1
  have X0 : Stand p l e ({ frames := 0, cells := 0, slots := 0, locals := 0 } : Room) s m #[(.ref a1)] below meth c s₁ [] 0 0 := Stand.of_body Bd
  have e0 : s₁.heap = h0 := by rw [← hh, Bd.state]; rfl
  have N0 := Fr.nil n0
  show Goes p e below s (Q8 Z a1 b1 k1 z1 xs cs h0 n0) ({ frames := 0, cells := 0, slots := 0, locals := 0 } : Room).cells ({ frames := 0, cells := 0, slots := 0, locals := 0 } : Room).slots (s₁.setTop (entryFrame m #[(.ref a1)] 1))
  refine Goes.enter (g' := (mkF m 0 #[.val (.ref a1)] [])) (ef_rm8 m a1) ?_
  obtain ⟨T1, X1, e1, st1⟩ := getS2 X0 hx hZ hown (host := "") (Or.inl (own_w46 hw)) Via.refl e0 Sc (g := (mkF m 0 #[.val (.ref a1)] [])) rfl (hb hby d8_0)
  refine Goes.step (B := T1.setTop (mkF m 3 #[.val (.ref a1)] [(.int cs)])) st1 ?_
  refine Goes.step (fun _ k => pw_ifNo X1.here hx (hb hby d8_3) ((if0 _ _).trans (feq hcs).1) _ (pw_aloadN X1.here hx (hb hby d8_6) rfl rfl _ k)) ?_
  obtain ⟨T2, X2, e2, st2⟩ := getF X1 hx hZ hown (host := "") (Or.inl (own_w26 hw)) Via.refl e1 Fc1 (g := (mkF m 7 #[.val (.ref a1)] [(.ref a1)])) rfl rfl (hb hby d8_7)
  refine Goes.step (B := T2.setTop (mkF m 10 #[.val (.ref a1)] [(.int 0)])) st2 ?_
  refine Goes.step (fun _ k => pw_ifNo X2.here hx (hb hby d8_10) ((if0 _ _).trans (teq (by decide)).2) _ (pw_iconst X2.here hx (v := (1 : Int32)) (hb hby d8_13) rfl _ (pw_goto X2.here hx (pc' := 18) (hb hby d8_14) (by decide) (by decide) _ k))) ?_
  exact Goes.retN X2 hx e2 (t := .boolean) Bd.returns (by simp) hlk (hb hby d8_18) (by decide) (by decide) (⟨rfl, N0, rfl⟩)
theorem d9_0 : decode jdk_42_method_54_code 0 = .ok (.aload_n 0, 1) := by decide +kernel
theorem d9_1 : decode jdk_42_method_54_code 1 = .ok (.getfield 9, 3) := by decide +kernel
theorem d9_4 : decode jdk_42_method_54_code 4 = .ok (.arraylength, 1) := by decide +kernel
theorem d9_5 : decode jdk_42_method_54_code 5 = .ok (.aload_n 0, 1) := by decide +kernel
theorem d9_6 : decode jdk_42_method_54_code 6 = .ok (.invokevirtual 335, 3) := by decide +kernel
theorem own_w52 {Z : State} {a0 : Array Value} (hw : ∀ d ∈ tables_1, d.before a0 Z = true) : (Jvm.Cond.methodLink "java/lang/String" (335 : Nat) ({ cls := "java/lang/String", name := "coder", desc := "()B" } : Jvm.MethodName)).before a0 Z = true := hw _ (List.mem_of_getElem? (i := 52) rfl)
theorem own_w56 {Z : State} {a0 : Array Value} (hw : ∀ d ∈ tables_1, d.before a0 Z = true) : (Jvm.Cond.code ({ cls := "java/lang/String", name := "coder", desc := "()B" } : Jvm.MethodName) jdk_42_method_152_code (1 : Nat) (Option.some Jvm.ClassFile.FieldType.byte)).before a0 Z = true := hw _ (List.mem_of_getElem? (i := 56) rfl)
theorem pd_4 : parseMethodDescriptor "()B" = some ⟨[], some .byte⟩ := by decide +kernel
theorem own_w55 {Z : State} {a0 : Array Value} (hw : ∀ d ∈ tables_1, d.before a0 Z = true) : (Jvm.Cond.selects "java/lang/String" ({ cls := "java/lang/String", name := "coder", desc := "()B" } : Jvm.MethodName) ({ cls := "java/lang/String", name := "coder", desc := "()B" } : Jvm.MethodName)).before a0 Z = true := hw _ (List.mem_of_getElem? (i := 55) rfl)
theorem own_w53 {Z : State} {a0 : Array Value} (hw : ∀ d ∈ tables_1, d.before a0 Z = true) : (Jvm.Cond.declares ({ cls := "java/lang/String", name := "coder", desc := "()B" } : Jvm.MethodName)).before a0 Z = true := hw _ (List.mem_of_getElem? (i := 53) rfl)
theorem own_w54 {Z : State} {a0 : Array Value} (hw : ∀ d ∈ tables_1, d.before a0 Z = true) : (Jvm.Cond.instanceMethod ({ cls := "java/lang/String", name := "coder", desc := "()B" } : Jvm.MethodName)).before a0 Z = true := hw _ (List.mem_of_getElem? (i := 54) rfl)
theorem d9_9 : decode jdk_42_method_54_code 9 = .ok (.ishr, 1) := by decide +kernel
theorem d9_10 : decode jdk_42_method_54_code 10 = .ok (.ireturn, 1) := by decide +kernel
theorem ef_rm9 (m : MethodId) (x0 : Addr) : entryFrame m #[(.ref x0)] 1 = mkF m 0 #[.val (.ref x0)] [] := by first | (simp [entryFrame, mkF, argsToLocals, Value.category]; done) | rfl
def Q9 (Z : State) (a1 : Addr) (b1 : Addr) (k1 : ClassId) (z1 : Int32) (xs : List Int32) (cs : Int32) (h0 : Heap) (n0 : Nat) (v : Option Value) (h : Heap) (L : List Loc) : Prop := v = some (.int z1) ∧ Fr n0 L ∧ h = h0
set_option maxRecDepth 65536 in
set_option maxHeartbeats 40000000 in
theorem rm9 (l : Launch) (Z : State) (a0 : Array Value) (hw : ∀ d ∈ tables_1, d.before a0 Z = true) (ws : List Jvm.Cond) (a1 : Addr) (b1 : Addr) (k1 : ClassId) (z1 : Int32) (xs : List Int32) (cs : Int32) (h0 : Heap) (n0 : Nat) (O0 : Old Z n0 h0) (Sc : Sta Z h0 "java/lang/String" "COMPACT_STRINGS" "Z" (.int cs)) (hcs : ¬ cs = (0 : Int32)) (E1 : Exa Z h0 a1 "java/lang/String") (Fc1 : Fld Z h0 a1 "java/lang/String" "coder" "B" (.int (0 : Int32))) (Fv1 : Fld Z h0 a1 "java/lang/String" "value" "[B" (.ref b1)) (V1 : Arv Z h0 b1 k1 .byte z1 (xs.map Value.int) (.int (0 : Int32))) :
    MetFree l (⟨"java/lang/String", "length", "()I"⟩ : MethodName) (head1 (Jvm.Cond.code (⟨"java/lang/String", "length", "()I"⟩ : MethodName) jdk_42_method_54_code 1 (some .int) :: ws) ({ frames := 1, cells := 0, slots := 0, locals := 13 } : Room)) (fun a U => a = #[(.ref a1)] ∧ Z.Warmed39 U.vm ∧ U.heap = h0) (fun _ _ _ _ _ => True) (fun _ U o U' => ∃ v L, o = .returned v ∧ Q9 Z a1 b1 k1 z1 xs cs h0 n0 v U'.heap L ∧ FrameEnd U o U' L ({ frames := 1, cells := 0, slots := 0, locals := 13 } : Room).cells ({ frames := 1, cells := 0, slots := 0, locals := 13 } : Room).slots) := by
  refine MetFree.of_bodySF (plainFor_of_name pn_String) hisR ?_
  intro p e s m args below meth c s₁ Bd hml0 hP hK
  obtain ⟨rfl, hZ, hh⟩ := hP
  have hx := Bd.exec
  have hby := Bd.bytes
  have hlk : meth.locks = false := BodyLoose.notSynchronized Bd
  have hml : c.maxLocals = 1 := hml0
  have hown : s.vm.findClass "java/lang/String" = some m.cls := findClass_of_methodNamed Bd.named
  have hnm := (name_of_methodNamed Bd.named Bd.method).1
  have X0 : Stand p l e ({ frames := 1, cells := 0, slots := 0, locals := 13 } : Room) s m #[(.ref a1)] below meth c s₁ [] 0 0 := Stand.of_body Bd
  have e0 : s₁.heap = h0 := by rw [← hh, Bd.state]; rfl
  have N0 := Fr.nil n0
  show Goes p e below s (Q9 Z a1 b1 k1 z1 xs cs h0 n0) ({ frames := 1, cells := 0, slots := 0, locals := 13 } : Room).cells ({ frames := 1, cells := 0, slots := 0, locals := 13 } : Room).slots (s₁.setTop (entryFrame m #[(.ref a1)] 1))
  refine Goes.enter (g' := (mkF m 0 #[.val (.ref a1)] [])) (ef_rm9 m a1) ?_
  refine Goes.step (fun _ k => pw_aloadN X0.here hx (hb hby d9_0) rfl rfl _ k) ?_
  obtain ⟨T1, X1, e1, st1⟩ := getF X0 hx hZ hown (host := "") (Or.inl (own_w25 hw)) Via.refl e0 Fv1 (g := (mkF m 1 #[.val (.ref a1)] [(.ref a1)])) rfl rfl (hb hby d9_1)
  refine Goes.step (B := T1.setTop (mkF m 4 #[.val (.ref a1)] [(.ref b1)])) st1 ?_
  obtain ⟨c2, Ar2, -, Sz2, Nn2, -, -⟩ := id V1
  have len2 := X1.arraylength hx (by rw [e1]; exact Ar2.1) (State.isArrayOf_alike hZ.alike Ar2.2.1) (g := (mkF m 4 #[.val (.ref a1)] [(.ref b1)])) rfl rfl (hb hby d9_4)
  rw [len_of Sz2 Nn2] at len2
  refine Goes.step (B := T1.setTop (mkF m 5 #[.val (.ref a1)] [(.int z1)])) len2 ?_
  refine Goes.step (fun _ k => pw_aloadN X1.here hx (hb hby d9_5) rfl rfl _ k) ?_
  obtain ⟨cq3, kq3, qa3, qb3, qc3⟩ := isOf hZ e1 E1
  obtain ⟨_, _, ⟨T3, L3, k3, n3⟩, -, X3, ⟨Lc3, hQ3, l3, y3, z3⟩, st3⟩ := X1.virtualBack hx (y := (⟨"java/lang/String", "coder", "()B"⟩ : MethodName)) (z := (⟨"java/lang/String", "coder", "()B"⟩ : MethodName)) hown (mvT hZ (own_w52 hw)) (mvT hZ (own_w53 hw)) (notFace_of_selects (args := #[]) (mvT hZ (own_w55 hw))) (mvT hZ (own_w55 hw)) (mvT hZ (own_w54 hw)) (by decide) (backOf (W := 1) (rm10 l Z a0 hw [] a1 b1 k1 z1 xs cs h0 n0 O0 Sc hcs E1 Fc1 Fv1 V1) hZ (own_w56 hw) (own_w8 hw) (by decide) (by decide)) qa3 qc3 (g := (mkF m 6 #[.val (.ref a1)] [(.ref a1), (.int z1)])) rfl (by rw [hml]; rfl) (Steps.refl _) (argsL := []) (rest := [(.int z1)]) (lenOf pd_4 rfl) rfl (by show 2 * 0 + _ ≤ _; exact Nat.le_of_eq rfl) (hb hby d9_6) (fun _ _ => ⟨rfl, e1, (by decide : 0 + 0 ≤ _), (by decide : 0 + 0 ≤ _)⟩)
  dsimp only [Pt.U, Pt.locs, Pt.cells, Pt.slots] at X3 l3 y3 z3 st3 hQ3
  subst l3 y3 z3
  obtain ⟨rfl, Nq3, eh3⟩ := hQ3
  have N3 := Fr.app N0 Nq3
  refine Goes.via (B := T3.setTop (mkF m 9 #[.val (.ref a1)] [(.int 0), (.int z1)])) st3 ?_
  refine Goes.step (B := T3.setTop (mkF m 10 #[.val (.ref a1)] [(.int (z1 >>> ((0 : Int32) &&& 31)))])) (fun _ k => XS.ishr X3.here hx rfl (hb hby d9_9) rfl k) ?_
  exact Goes.retI X3 hx eh3 Bd.returns hlk (hb hby d9_10) (by decide) (by decide) (⟨own_sh0 z1, N3, rfl⟩)
theorem d12_0 : decode jdk_43_method_4_code 0 = .ok (.iload_n 0, 1) := by decide +kernel
theorem d12_1 : decode jdk_43_method_4_code 1 = .ok (.ifCond .lt 14, 3) := by decide +kernel
theorem d12_4 : decode jdk_43_method_4_code 4 = .ok (.iload_n 0, 1) := by decide +kernel
theorem d12_5 : decode jdk_43_method_4_code 5 = .ok (.sipush 255, 3) := by decide +kernel
theorem d12_8 : decode jdk_43_method_4_code 8 = .ok (.if_icmp .gt 7, 3) := by decide +kernel
theorem d12_11 : decode jdk_43_method_4_code 11 = .ok (.iconst 1, 1) := by decide +kernel
theorem d12_12 : decode jdk_43_method_4_code 12 = .ok (.goto 4, 3) := by decide +kernel
theorem d12_16 : decode jdk_43_method_4_code 16 = .ok (.ireturn, 1) := by decide +kernel
theorem pn_StringLatin1 : plainName "java/lang/StringLatin1" = true := by first | (simp [plainName, overriddenIn]; done) | decide +kernel
theorem ef_rm12 (m : MethodId) (x0 : Int32) : entryFrame m #[(.int x0)] 1 = mkF m 0 #[.val (.int x0)] [] := by first | (simp [entryFrame, mkF, argsToLocals, Value.category]; done) | rfl
def Q12 (Z : State) (p1 : Int32) (h0 : Heap) (n0 : Nat) (v : Option Value) (h : Heap) (L : List Loc) : Prop := v = some (.int 1) ∧ Fr n0 L ∧ h = h0
set_option maxRecDepth 65536 in
set_option maxHeartbeats 40000000 in
theorem rm12 (l : Launch) (Z : State) (a0 : Array Value) (hw : ∀ d ∈ tables_1, d.before a0 Z = true) (ws : List Jvm.Cond) (p1 : Int32) (h0 : Heap) (n0 : Nat) (O0 : Old Z n0 h0) (hp0 : ¬ p1 < (0 : Int32)) (hp1 : ¬ (255 : Int32) < p1) :
    MetFree l (⟨"java/lang/StringLatin1", "canEncode", "(I)Z"⟩ : MethodName) (head1 (Jvm.Cond.code (⟨"java/lang/StringLatin1", "canEncode", "(I)Z"⟩ : MethodName) jdk_43_method_4_code 1 (some .boolean) :: ws) ({ frames := 0, cells := 0, slots := 0, locals := 0 } : Room)) (fun a U => a = #[(.int p1)] ∧ Z.Warmed39 U.vm ∧ U.heap = h0) (fun _ _ _ _ _ => True) (fun _ U o U' => ∃ v L, o = .returned v ∧ Q12 Z p1 h0 n0 v U'.heap L ∧ FrameEnd U o U' L ({ frames := 0, cells := 0, slots := 0, locals := 0 } : Room).cells ({ frames := 0, cells := 0, slots := 0, locals := 0 } : Room).slots) := by
  refine MetFree.of_bodySF (plainFor_of_name pn_StringLatin1) hisR ?_
  intro p e s m args below meth c s₁ Bd hml0 hP hK
  obtain ⟨rfl, hZ, hh⟩ := hP
  have hx := Bd.exec
  have hby := Bd.bytes
  have hlk : meth.locks = false := BodyLoose.notSynchronized Bd
  have hml : c.maxLocals = 1 := hml0
  have hown : s.vm.findClass "java/lang/StringLatin1" = some m.cls := findClass_of_methodNamed Bd.named
  have hnm := (name_of_methodNamed Bd.named Bd.method).1
  have X0 : Stand p l e ({ frames := 0, cells := 0, slots := 0, locals := 0 } : Room) s m #[(.int p1)] below meth c s₁ [] 0 0 := Stand.of_body Bd
  have e0 : s₁.heap = h0 := by rw [← hh, Bd.state]; rfl
  have N0 := Fr.nil n0
  show Goes p e below s (Q12 Z p1 h0 n0) ({ frames := 0, cells := 0, slots := 0, locals := 0 } : Room).cells ({ frames := 0, cells := 0, slots := 0, locals := 0 } : Room).slots (s₁.setTop (entryFrame m #[(.int p1)] 1))
  refine Goes.enter (g' := (mkF m 0 #[.val (.int p1)] [])) (ef_rm12 m p1) ?_
  refine Goes.step (fun _ k => pw_iloadN X0.here hx (hb hby d12_0) rfl _ (pw_ifNo X0.here hx (hb hby d12_1) ((if0 _ _).trans (flt hp0).1) _ (pw_iloadN X0.here hx (hb hby d12_4) rfl _ (pw_sipush X0.here hx (v := (255 : Int32)) (hb hby d12_5) rfl _ (pw_icmpNo X0.here hx (hb hby d12_8) (flt hp1).2.2.1 _ (pw_iconst X0.here hx (v := (1 : Int32)) (hb hby d12_11) rfl _ k)))))) ?_
  refine Goes.step (fun _ k => pw_goto X0.here hx (pc' := 16) (hb hby d12_12) (by decide) (by decide) _ k) ?_
  exact Goes.retN X0 hx e0 (t := .boolean) Bd.returns (by simp) hlk (hb hby d12_16) (by decide) (by decide) (⟨rfl, N0, rfl⟩)
theorem d14_0 : decode jdk_29_method_69_code 0 = .ok (.iload_n 0, 1) := by decide +kernel
theorem d14_1 : decode jdk_29_method_69_code 1 = .ok (.iload_n 1, 1) := by decide +kernel
theorem d14_2 : decode jdk_29_method_69_code 2 = .ok (.if_icmp .gt 7, 3) := by decide +kernel
theorem d14_9 : decode jdk_29_method_69_code 9 = .ok (.iload_n 1, 1) := by decide +kernel
theorem d14_10 : decode jdk_29_method_69_code 10 = .ok (.ireturn, 1) := by decide +kernel
theorem d14_5 : decode jdk_29_method_69_code 5 = .ok (.iload_n 0, 1) := by decide +kernel
theorem d14_6 : decode jdk_29_method_69_code 6 = .ok (.goto 4, 3) := by decide +kernel
theorem ef_rm14 (m : MethodId) (x0 : Int32) (x1 : Int32) : entryFrame m #[(.int x0), (.int x1)] 2 = mkF m 0 #[.val (.int x0), .val (.int x1)] [] := by first | (simp [entryFrame, mkF, argsToLocals, Value.category]; done) | rfl
def Q14 (Z : State) (p1 : Int32) (p2 : Int32) (h0 : Heap) (n0 : Nat) (v : Option Value) (h : Heap) (L : List Loc) : Prop := v = some (.int (own_min p1 p2)) ∧ Fr n0 L ∧ h = h0
set_option maxRecDepth 65536 in
set_option maxHeartbeats 40000000 in
theorem rm14 (l : Launch) (Z : State) (a0 : Array Value) (hw : ∀ d ∈ tables_1, d.before a0 Z = true) (ws : List Jvm.Cond) (p1 : Int32) (p2 : Int32) (h0 : Heap) (n0 : Nat) (O0 : Old Z n0 h0) :
    MetFree l (⟨"java/lang/Math", "min", "(II)I"⟩ : MethodName) (head1 (Jvm.Cond.code (⟨"java/lang/Math", "min", "(II)I"⟩ : MethodName) jdk_29_method_69_code 2 (some .int) :: ws) ({ frames := 0, cells := 0, slots := 0, locals := 0 } : Room)) (fun a U => a = #[(.int p1), (.int p2)] ∧ Z.Warmed39 U.vm ∧ U.heap = h0) (fun _ _ _ _ _ => True) (fun _ U o U' => ∃ v L, o = .returned v ∧ Q14 Z p1 p2 h0 n0 v U'.heap L ∧ FrameEnd U o U' L ({ frames := 0, cells := 0, slots := 0, locals := 0 } : Room).cells ({ frames := 0, cells := 0, slots := 0, locals := 0 } : Room).slots) := by
  refine MetFree.of_bodySF (Jvm.Free.JP.mathPlain rfl (by decide +kernel)) hisR ?_
  intro p e s m args below meth c s₁ Bd hml0 hP hK
  obtain ⟨rfl, hZ, hh⟩ := hP
  have hx := Bd.exec
  have hby := Bd.bytes
  have hlk : meth.locks = false := BodyLoose.notSynchronized Bd
  have hml : c.maxLocals = 2 := hml0
  have hown : s.vm.findClass "java/lang/Math" = some m.cls := findClass_of_methodNamed Bd.named
  have hnm := (name_of_methodNamed Bd.named Bd.method).1
  have X0 : Stand p l e ({ frames := 0, cells := 0, slots := 0, locals := 0 } : Room) s m #[(.int p1), (.int p2)] below meth c s₁ [] 0 0 := Stand.of_body Bd
  have e0 : s₁.heap = h0 := by rw [← hh, Bd.state]; rfl
  have N0 := Fr.nil n0
  show Goes p e below s (Q14 Z p1 p2 h0 n0) ({ frames := 0, cells := 0, slots := 0, locals := 0 } : Room).cells ({ frames := 0, cells := 0, slots := 0, locals := 0 } : Room).slots (s₁.setTop (entryFrame m #[(.int p1), (.int p2)] 2))
  refine Goes.enter (g' := (mkF m 0 #[.val (.int p1), .val (.int p2)] [])) (ef_rm14 m p1 p2) ?_
  refine Goes.step (fun _ k => pw_iloadN X0.here hx (hb hby d14_0) rfl _ (pw_iloadN X0.here hx (hb hby d14_1) rfl _ k)) ?_
  by_cases hc2_0 : p2 < p1
  · refine Goes.step (fun _ k => pw_icmpYes X0.here hx (pc' := 9) (hb hby d14_2) (tlt hc2_0).2.2.1 (by decide) (by decide) _ (pw_iloadN X0.here hx (hb hby d14_9) rfl _ k)) ?_
    exact Goes.retI X0 hx e0 Bd.returns hlk (hb hby d14_10) (by decide) (by decide) (⟨(by unfold own_min; rw [if_pos hc2_0]; try rfl), N0, rfl⟩)
  · refine Goes.step (fun _ k => pw_icmpNo X0.here hx (hb hby d14_2) (flt hc2_0).2.2.1 _ (pw_iloadN X0.here hx (hb hby d14_5) rfl _ (pw_goto X0.here hx (pc' := 10) (hb hby d14_6) (by decide) (by decide) _ k))) ?_
    exact Goes.retI X0 hx e0 Bd.returns hlk (hb hby d14_10) (by decide) (by decide) (⟨(by unfold own_min; rw [if_neg hc2_0]; try rfl), N0, rfl⟩)
theorem d33_0 : decode jdk_41_method_11_code 0 = .ok (.iload_n 0, 1) := by decide +kernel
theorem d33_1 : decode jdk_41_method_11_code 1 = .ok (.ifCond .lt 8, 3) := by decide +kernel
theorem d33_4 : decode jdk_41_method_11_code 4 = .ok (.iload_n 0, 1) := by decide +kernel
theorem d33_5 : decode jdk_41_method_11_code 5 = .ok (.iload_n 1, 1) := by decide +kernel
theorem d33_6 : decode jdk_41_method_11_code 6 = .ok (.if_icmp .lt 10, 3) := by decide +kernel
theorem d33_16 : decode jdk_41_method_11_code 16 = .ok (.iload_n 0, 1) := by decide +kernel
theorem d33_17 : decode jdk_41_method_11_code 17 = .ok (.ireturn, 1) := by decide +kernel
theorem pn_Preconditions : plainName "jdk/internal/util/Preconditions" = true := by first | (simp [plainName, overriddenIn]; done) | decide +kernel
theorem ef_rm33 (m : MethodId) (x0 : Int32) (x1 : Int32) (x2 : Value) (hx2 : x2.isRef = true) : entryFrame m #[(.int x0), (.int x1), x2] 3 = mkF m 0 #[.val (.int x0), .val (.int x1), .val x2] [] := by rcases own_refc hx2 with rfl | ⟨r2, rfl⟩ <;> first | (simp [entryFrame, mkF, argsToLocals, Value.category]; done) | rfl
def Q33 (Z : State) (ii : Int32) (nn : Int32) (fm : Value) (h0 : Heap) (n0 : Nat) (v : Option Value) (h : Heap) (L : List Loc) : Prop := v = some (.int ii) ∧ Fr n0 L ∧ h = h0
set_option maxRecDepth 65536 in
set_option maxHeartbeats 40000000 in
theorem rm33 (l : Launch) (Z : State) (a0 : Array Value) (hw : ∀ d ∈ tables_1, d.before a0 Z = true) (ws : List Jvm.Cond) (ii : Int32) (nn : Int32) (fm : Value) (h0 : Heap) (n0 : Nat) (O0 : Old Z n0 h0) (hi0 : ¬ ii < (0 : Int32)) (hi1 : ii < nn) (hfm : fm.isRef = true) :
    MetFree l (⟨"jdk/internal/util/Preconditions", "checkIndex", "(IILjava/util/function/BiFunction;)I"⟩ : MethodName) (head1 (Jvm.Cond.code (⟨"jdk/internal/util/Preconditions", "checkIndex", "(IILjava/util/function/BiFunction;)I"⟩ : MethodName) jdk_41_method_11_code 3 (some .int) :: ws) ({ frames := 0, cells := 0, slots := 0, locals := 0 } : Room)) (fun a U => a = #[(.int ii), (.int nn), fm] ∧ Z.Warmed39 U.vm ∧ U.heap = h0) (fun _ _ _ _ _ => True) (fun _ U o U' => ∃ v L, o = .returned v ∧ Q33 Z ii nn fm h0 n0 v U'.heap L ∧ FrameEnd U o U' L ({ frames := 0, cells := 0, slots := 0, locals := 0 } : Room).cells ({ frames := 0, cells := 0, slots := 0, locals := 0 } : Room).slots) := by
  refine MetFree.of_bodySF (plainFor_of_name pn_Preconditions) hisR ?_
  intro p e s m args below meth c s₁ Bd hml0 hP hK
  obtain ⟨rfl, hZ, hh⟩ := hP
  have hx := Bd.exec
  have hby := Bd.bytes
  have hlk : meth.locks = false := BodyLoose.notSynchronized Bd
  have hml : c.maxLocals = 3 := hml0
  have hown : s.vm.findClass "jdk/internal/util/Preconditions" = some m.cls := findClass_of_methodNamed Bd.named
  have hnm := (name_of_methodNamed Bd.named Bd.method).1
  have X0 : Stand p l e ({ frames := 0, cells := 0, slots := 0, locals := 0 } : Room) s m #[(.int ii), (.int nn), fm] below meth c s₁ [] 0 0 := Stand.of_body Bd
  have e0 : s₁.heap = h0 := by rw [← hh, Bd.state]; rfl
  have N0 := Fr.nil n0
  show Goes p e below s (Q33 Z ii nn fm h0 n0) ({ frames := 0, cells := 0, slots := 0, locals := 0 } : Room).cells ({ frames := 0, cells := 0, slots := 0, locals := 0 } : Room).slots (s₁.setTop (entryFrame m #[(.int ii), (.int nn), fm] 3))
  refine Goes.enter (g' := (mkF m 0 #[.val (.int ii), .val (.int nn), .val fm] [])) (ef_rm33 m ii nn fm hfm) ?_
  refine Goes.step (fun _ k => pw_iloadN X0.here hx (hb hby d33_0) rfl _ (pw_ifNo X0.here hx (hb hby d33_1) ((if0 _ _).trans (flt hi0).1) _ (pw_iloadN X0.here hx (hb hby d33_4) rfl _ (pw_iloadN X0.here hx (hb hby d33_5) rfl _ (pw_icmpYes X0.here hx (pc' := 16) (hb hby d33_6) (tlt hi1).1 (by decide) (by decide) _ (pw_iloadN X0.here hx (hb hby d33_16) rfl _ k)))))) ?_
  exact Goes.retI X0 hx e0 Bd.returns hlk (hb hby d33_17) (by decide) (by decide) (⟨rfl, N0, rfl⟩)
theorem d32_0 : decode jdk_42_method_155_code 0 = .ok (.iload_n 0, 1) := by decide +kernel
theorem d32_1 : decode jdk_42_method_155_code 1 = .ok (.iload_n 1, 1) := by decide +kernel
theorem d32_2 : decode jdk_42_method_155_code 2 = .ok (.getstatic 1053, 3) := by decide +kernel
theorem own_w104 {Z : State} {a0 : Array Value} (hw : ∀ d ∈ tables_1, d.before a0 Z = true) : (Jvm.Cond.fieldLink "java/lang/String" (1053 : Nat) "jdk/internal/util/Preconditions" "SIOOBE_FORMATTER" "Ljava/util/function/BiFunction;").before a0 Z = true := hw _ (List.mem_of_getElem? (i := 104) rfl)
theorem d32_5 : decode jdk_42_method_155_code 5 = .ok (.invokestatic 1059, 3) := by decide +kernel
theorem own_w144 {Z : State} {a0 : Array Value} (hw : ∀ d ∈ tables_1, d.before a0 Z = true) : (Jvm.Cond.methodLink "java/lang/String" (1059 : Nat) ({ cls := "jdk/internal/util/Preconditions", name := "checkIndex", desc := "(IILjava/util/function/BiFunction;)I" } : Jvm.MethodName)).before a0 Z = true := hw _ (List.mem_of_getElem? (i := 144) rfl)
theorem own_w146 {Z : State} {a0 : Array Value} (hw : ∀ d ∈ tables_1, d.before a0 Z = true) : (Jvm.Cond.code ({ cls := "jdk/internal/util/Preconditions", name := "checkIndex", desc := "(IILjava/util/function/BiFunction;)I" } : Jvm.MethodName) jdk_41_method_11_code (3 : Nat) (Option.some Jvm.ClassFile.FieldType.int)).before a0 Z = true := hw _ (List.mem_of_getElem? (i := 146) rfl)
theorem own_w105 {Z : State} {a0 : Array Value} (hw : ∀ d ∈ tables_1, d.before a0 Z = true) : (Jvm.Cond.initialized "jdk/internal/util/Preconditions").before a0 Z = true := hw _ (List.mem_of_getElem? (i := 105) rfl)
theorem pd_5 : parseMethodDescriptor "(IILjava/util/function/BiFunction;)I" = some ⟨[.int, .int, (.object "java/util/function/BiFunction")], some .int⟩ := by decide +kernel
theorem own_w145 {Z : State} {a0 : Array Value} (hw : ∀ d ∈ tables_1, d.before a0 Z = true) : (Jvm.Cond.static ({ cls := "jdk/internal/util/Preconditions", name := "checkIndex", desc := "(IILjava/util/function/BiFunction;)I" } : Jvm.MethodName)).before a0 Z = true := hw _ (List.mem_of_getElem? (i := 145) rfl)
theorem d32_8 : decode jdk_42_method_155_code 8 = .ok (.pop, 1) := by decide +kernel
theorem d32_9 : decode jdk_42_method_155_code 9 = .ok (.return_, 1) := by decide +kernel
theorem ef_rm32 (m : MethodId) (x0 : Int32) (x1 : Int32) : entryFrame m #[(.int x0), (.int x1)] 2 = mkF m 0 #[.val (.int x0), .val (.int x1)] [] := by first | (simp [entryFrame, mkF, argsToLocals, Value.category]; done) | rfl
def Q32 (Z : State) (ii : Int32) (nn : Int32) (cs : Int32) (fm : Value) (h0 : Heap) (n0 : Nat) (v : Option Value) (h : Heap) (L : List Loc) : Prop := v = none ∧ Fr n0 L ∧ h = h0
set_option maxRecDepth 65536 in
set_option maxHeartbeats 40000000 in
theorem rm32 (l : Launch) (Z : State) (a0 : Array Value) (hw : ∀ d ∈ tables_1, d.before a0 Z = true) (ws : List Jvm.Cond) (ii : Int32) (nn : Int32) (cs : Int32) (fm : Value) (h0 : Heap) (n0 : Nat) (O0 : Old Z n0 h0) (FS : OwnSt Z cs fm) (hi0 : ¬ ii < (0 : Int32)) (hi1 : ii < nn) :
    MetFree l (⟨"java/lang/String", "checkIndex", "(II)V"⟩ : MethodName) (head1 (Jvm.Cond.code (⟨"java/lang/String", "checkIndex", "(II)V"⟩ : MethodName) jdk_42_method_155_code 2 none :: ws) ({ frames := 1, cells := 0, slots := 0, locals := 14 } : Room)) (fun a U => a = #[(.int ii), (.int nn)] ∧ Z.Warmed39 U.vm ∧ U.heap = h0) (fun _ _ _ _ _ => True) (fun _ U o U' => ∃ v L, o = .returned v ∧ Q32 Z ii nn cs fm h0 n0 v U'.heap L ∧ FrameEnd U o U' L ({ frames := 1, cells := 0, slots := 0, locals := 14 } : Room).cells ({ frames := 1, cells := 0, slots := 0, locals := 14 } : Room).slots) := by
  refine MetFree.of_bodySF (plainFor_of_name pn_String) hisR ?_
  intro p e s m args below meth c s₁ Bd hml0 hP hK
  obtain ⟨rfl, hZ, hh⟩ := hP
  have hx := Bd.exec
  have hby := Bd.bytes
  have hlk : meth.locks = false := BodyLoose.notSynchronized Bd
  have hml : c.maxLocals = 2 := hml0
  have hown : s.vm.findClass "java/lang/String" = some m.cls := findClass_of_methodNamed Bd.named
  have hnm := (name_of_methodNamed Bd.named Bd.method).1
  have X0 : Stand p l e ({ frames := 1, cells := 0, slots := 0, locals := 14 } : Room) s m #[(.int ii), (.int nn)] below meth c s₁ [] 0 0 := Stand.of_body Bd
  have e0 : s₁.heap = h0 := by rw [← hh, Bd.state]; rfl
  have N0 := Fr.nil n0
  show Goes p e below s (Q32 Z ii nn cs fm h0 n0) ({ frames := 1, cells := 0, slots := 0, locals := 14 } : Room).cells ({ frames := 1, cells := 0, slots := 0, locals := 14 } : Room).slots (s₁.setTop (entryFrame m #[(.int ii), (.int nn)] 2))
  refine Goes.enter (g' := (mkF m 0 #[.val (.int ii), .val (.int nn)] [])) (ef_rm32 m ii nn) ?_
  have FS0 := FS
  obtain ⟨S_COMPACT_STRINGS, hcs, S_fm, hfm⟩ := FS0
  refine Goes.step (fun _ k => pw_iloadN X0.here hx (hb hby d32_0) rfl _ (pw_iloadN X0.here hx (hb hby d32_1) rfl _ k)) ?_
  have f1 := S_fm.ext O0.2
  obtain ⟨T2, X2, e2, st2⟩ := getS2 X0 hx hZ hown (host := "") (Or.inl (own_w104 hw)) Via.refl e0 f1 (g := (mkF m 2 #[.val (.int ii), .val (.int nn)] [(.int nn), (.int ii)])) rfl (hb hby d32_2)
  refine Goes.step (B := T2.setTop (mkF m 5 #[.val (.int ii), .val (.int nn)] [fm, (.int nn), (.int ii)])) st2 ?_
  obtain ⟨_, _, ⟨T3, L3, k3, n3⟩, -, X3, ⟨Lc3, hQ3, l3, y3, z3⟩, st3⟩ := Jvm.LawKit.callS X2 hx (y := (⟨"jdk/internal/util/Preconditions", "checkIndex", "(IILjava/util/function/BiFunction;)I"⟩ : MethodName)) hown (mvT hZ (own_w144 hw)) (mvT hZ (own_w145 hw)) (mvT hZ (own_w105 hw)) (mvT hZ (own_w146 hw)) (by decide) (backOf (W := 0) (rm33 l Z a0 hw [] ii nn fm h0 n0 O0 hi0 hi1 hfm) hZ (own_w146 hw) (own_w105 hw) (by decide) (by decide)) (g := (mkF m 5 #[.val (.int ii), .val (.int nn)] [fm, (.int nn), (.int ii)])) rfl (by rw [hml]; rfl) (argsL := [(.int ii), (.int nn), fm]) (rest := []) (lenOf pd_5 rfl) rfl (by show 2 * 0 + _ ≤ _; exact Nat.le_of_eq rfl) (hb hby d32_5) (fun _ _ => ⟨rfl, e2, (by decide : 0 + 0 ≤ _), (by decide : 0 + 0 ≤ _)⟩)
  dsimp only [Pt.U, Pt.locs, Pt.cells, Pt.slots] at X3 l3 y3 z3 st3 hQ3
  subst l3 y3 z3
  obtain ⟨rfl, Nq3, eh3⟩ := hQ3
  have N3 := Fr.app N0 Nq3
  refine Goes.step (B := T3.setTop (mkF m 8 #[.val (.int ii), .val (.int nn)] [(.int ii)])) st3 ?_
  refine Goes.step (fun _ k => pw_pop X3.here hx (hb hby d32_8) rfl _ k) ?_
  exact Goes.retV X3 hx eh3 Bd.returns hlk (hb hby d32_9) (by decide) (by decide) (⟨rfl, N3, rfl⟩)
theorem d31_0 : decode jdk_43_method_2_code 0 = .ok (.iload_n 1, 1) := by decide +kernel
theorem d31_1 : decode jdk_43_method_2_code 1 = .ok (.aload_n 0, 1) := by decide +kernel
theorem d31_2 : decode jdk_43_method_2_code 2 = .ok (.arraylength, 1) := by decide +kernel
theorem d31_3 : decode jdk_43_method_2_code 3 = .ok (.invokestatic 9, 3) := by decide +kernel
theorem own_w141 {Z : State} {a0 : Array Value} (hw : ∀ d ∈ tables_1, d.before a0 Z = true) : (Jvm.Cond.methodLink "java/lang/StringLatin1" (9 : Nat) ({ cls := "java/lang/String", name := "checkIndex", desc := "(II)V" } : Jvm.MethodName)).before a0 Z = true := hw _ (List.mem_of_getElem? (i := 141) rfl)
theorem own_w143 {Z : State} {a0 : Array Value} (hw : ∀ d ∈ tables_1, d.before a0 Z = true) : (Jvm.Cond.code ({ cls := "java/lang/String", name := "checkIndex", desc := "(II)V" } : Jvm.MethodName) jdk_42_method_155_code (2 : Nat) (Option.none : Option Jvm.ClassFile.FieldType)).before a0 Z = true := hw _ (List.mem_of_getElem? (i := 143) rfl)
theorem pd_6 : parseMethodDescriptor "(II)V" = some ⟨[.int, .int], none⟩ := by decide +kernel
theorem own_w142 {Z : State} {a0 : Array Value} (hw : ∀ d ∈ tables_1, d.before a0 Z = true) : (Jvm.Cond.static ({ cls := "java/lang/String", name := "checkIndex", desc := "(II)V" } : Jvm.MethodName)).before a0 Z = true := hw _ (List.mem_of_getElem? (i := 142) rfl)
theorem d31_6 : decode jdk_43_method_2_code 6 = .ok (.aload_n 0, 1) := by decide +kernel
theorem d31_7 : decode jdk_43_method_2_code 7 = .ok (.iload_n 1, 1) := by decide +kernel
theorem d31_8 : decode jdk_43_method_2_code 8 = .ok (.baload, 1) := by decide +kernel
theorem d31_9 : decode jdk_43_method_2_code 9 = .ok (.sipush 255, 3) := by decide +kernel
theorem d31_12 : decode jdk_43_method_2_code 12 = .ok (.iand, 1) := by decide +kernel
theorem d31_13 : decode jdk_43_method_2_code 13 = .ok (.i2c, 1) := by decide +kernel
theorem d31_14 : decode jdk_43_method_2_code 14 = .ok (.ireturn, 1) := by decide +kernel
theorem ef_rm31 (m : MethodId) (x0 : Addr) (x1 : Int32) : entryFrame m #[(.ref x0), (.int x1)] 2 = mkF m 0 #[.val (.ref x0), .val (.int x1)] [] := by first | (simp [entryFrame, mkF, argsToLocals, Value.category]; done) | rfl
def Q31 (Z : State) (b1 : Addr) (k1 : ClassId) (z1 : Int32) (xs : List Int32) (ii : Int32) (cs : Int32) (fm : Value) (h0 : Heap) (n0 : Nat) (v : Option Value) (h : Heap) (L : List Loc) : Prop := v = some (.int (own_c (xs.getD ii.toNatClampNeg 0))) ∧ Fr n0 L ∧ h = h0
set_option maxRecDepth 65536 in
set_option maxHeartbeats 40000000 in
theorem rm31 (l : Launch) (Z : State) (a0 : Array Value) (hw : ∀ d ∈ tables_1, d.before a0 Z = true) (ws : List Jvm.Cond) (b1 : Addr) (k1 : ClassId) (z1 : Int32) (xs : List Int32) (ii : Int32) (cs : Int32) (fm : Value) (h0 : Heap) (n0 : Nat) (O0 : Old Z n0 h0) (FS : OwnSt Z cs fm) (V1 : Arv Z h0 b1 k1 .byte z1 (xs.map Value.int) (.int (0 : Int32))) (hi0 : ¬ ii < (0 : Int32)) (hi1 : ii < z1) :
    MetFree l (⟨"java/lang/StringLatin1", "charAt", "([BI)C"⟩ : MethodName) (head1 (Jvm.Cond.code (⟨"java/lang/StringLatin1", "charAt", "([BI)C"⟩ : MethodName) jdk_43_method_2_code 2 (some .char) :: ws) ({ frames := 2, cells := 0, slots := 0, locals := 27 } : Room)) (fun a U => a = #[(.ref b1), (.int ii)] ∧ Z.Warmed39 U.vm ∧ U.heap = h0) (fun _ _ _ _ _ => True) (fun _ U o U' => ∃ v L, o = .returned v ∧ Q31 Z b1 k1 z1 xs ii cs fm h0 n0 v U'.heap L ∧ FrameEnd U o U' L ({ frames := 2, cells := 0, slots := 0, locals := 27 } : Room).cells ({ frames := 2, cells := 0, slots := 0, locals := 27 } : Room).slots) := by
  refine MetFree.of_bodySF (plainFor_of_name pn_StringLatin1) hisR ?_
  intro p e s m args below meth c s₁ Bd hml0 hP hK
  obtain ⟨rfl, hZ, hh⟩ := hP
  have hx := Bd.exec
  have hby := Bd.bytes
  have hlk : meth.locks = false := BodyLoose.notSynchronized Bd
  have hml : c.maxLocals = 2 := hml0
  have hown : s.vm.findClass "java/lang/StringLatin1" = some m.cls := findClass_of_methodNamed Bd.named
  have hnm := (name_of_methodNamed Bd.named Bd.method).1
  have X0 : Stand p l e ({ frames := 2, cells := 0, slots := 0, locals := 27 } : Room) s m #[(.ref b1), (.int ii)] below meth c s₁ [] 0 0 := Stand.of_body Bd
  have e0 : s₁.heap = h0 := by rw [← hh, Bd.state]; rfl
  have N0 := Fr.nil n0
  show Goes p e below s (Q31 Z b1 k1 z1 xs ii cs fm h0 n0) ({ frames := 2, cells := 0, slots := 0, locals := 27 } : Room).cells ({ frames := 2, cells := 0, slots := 0, locals := 27 } : Room).slots (s₁.setTop (entryFrame m #[(.ref b1), (.int ii)] 2))
  refine Goes.enter (g' := (mkF m 0 #[.val (.ref b1), .val (.int ii)] [])) (ef_rm31 m b1 ii) ?_
  have FS0 := FS
  obtain ⟨S_COMPACT_STRINGS, hcs, S_fm, hfm⟩ := FS0
  refine Goes.step (fun _ k => pw_iloadN X0.here hx (hb hby d31_0) rfl _ (pw_aloadN X0.here hx (hb hby d31_1) rfl rfl _ k)) ?_
  obtain ⟨c1, Ar1, -, Sz1, Nn1, -, -⟩ := id V1
  have len1 := X0.arraylength hx (by rw [e0]; exact Ar1.1) (State.isArrayOf_alike hZ.alike Ar1.2.1) (g := (mkF m 2 #[.val (.ref b1), .val (.int ii)] [(.ref b1), (.int ii)])) rfl rfl (hb hby d31_2)
  rw [len_of Sz1 Nn1] at len1
  refine Goes.step (B := s₁.setTop (mkF m 3 #[.val (.ref b1), .val (.int ii)] [(.int z1), (.int ii)])) len1 ?_
  obtain ⟨_, _, ⟨T2, L2, k2, n2⟩, -, X2, ⟨Lc2, hQ2, l2, y2, z2⟩, st2⟩ := Jvm.LawKit.callS X0 hx (y := (⟨"java/lang/String", "checkIndex", "(II)V"⟩ : MethodName)) hown (mvT hZ (own_w141 hw)) (mvT hZ (own_w142 hw)) (mvT hZ (own_w8 hw)) (mvT hZ (own_w143 hw)) (by decide) (backOf (W := 0) (rm32 l Z a0 hw [] ii z1 cs fm h0 n0 O0 FS hi0 hi1) hZ (own_w143 hw) (own_w8 hw) (by decide) (by decide)) (g := (mkF m 3 #[.val (.ref b1), .val (.int ii)] [(.int z1), (.int ii)])) rfl (by rw [hml]; rfl) (argsL := [(.int ii), (.int z1)]) (rest := []) (lenOf pd_6 rfl) rfl (by show 2 * 0 + _ ≤ _; exact Nat.le_of_eq rfl) (hb hby d31_3) (fun _ _ => ⟨rfl, e0, (by decide : 0 + 0 ≤ _), (by decide : 0 + 0 ≤ _)⟩)
  dsimp only [Pt.U, Pt.locs, Pt.cells, Pt.slots] at X2 l2 y2 z2 st2 hQ2
  subst l2 y2 z2
  obtain ⟨rfl, Nq2, eh2⟩ := hQ2
  have N2 := Fr.app N0 Nq2
  refine Goes.step (B := T2.setTop (mkF m 6 #[.val (.ref b1), .val (.int ii)] [])) st2 ?_
  refine Goes.step (fun _ k => pw_aloadN X2.here hx (hb hby d31_6) rfl rfl _ (pw_iloadN X2.here hx (hb hby d31_7) rfl _ k)) ?_
  obtain ⟨c3, Ar3, -, Sz3, Nn3, Hs3, -⟩ := id V1
  have hin3 : ¬ (ii < 0 ∨ c3.slots.size ≤ (ii).toNatClampNeg) := inb_of Sz3 ⟨hi0, hi1⟩
  refine Goes.step (B := T2.setTop (mkF m 9 #[.val (.ref b1), .val (.int ii)] [(.int (xs.getD ii.toNatClampNeg 0))])) (X2.baloadBytes hx (j := ii) (v := (.int (xs.getD ii.toNatClampNeg 0))) (by rw [eh2]; exact Ar3.1) (State.isArrayOf_alike hZ.alike Ar3.2.1) Ar3.2.2 hin3 (Has.at Hs3 hin3 (own_getD xs _)) (g := (mkF m 8 #[.val (.ref b1), .val (.int ii)] [(.int ii), (.ref b1)])) rfl rfl (hb hby d31_8)) ?_
  refine Goes.step (fun _ k => pw_sipush X2.here hx (v := (255 : Int32)) (hb hby d31_9) rfl _ (pw_iand X2.here hx (hb hby d31_12) _ k)) ?_
  refine Goes.step (B := T2.setTop (mkF m 14 #[.val (.ref b1), .val (.int ii)] [(.int ((xs.getD ii.toNatClampNeg 0) &&& (255 : Int32)).toUInt32.toUInt16.toUInt32.toInt32)])) (fun _ k => XS.i2c X2.here hx rfl (hb hby d31_13) rfl k) ?_
  exact Goes.retN X2 hx eh2 (t := .char) Bd.returns (by simp) hlk (hb hby d31_14) (by decide) (by decide) (⟨own_ncS _, N2, rfl⟩)
theorem d30_0 : decode jdk_42_method_56_code 0 = .ok (.aload_n 0, 1) := by decide +kernel
theorem d30_1 : decode jdk_42_method_56_code 1 = .ok (.invokevirtual 492, 3) := by decide +kernel
theorem own_w41 {Z : State} {a0 : Array Value} (hw : ∀ d ∈ tables_1, d.before a0 Z = true) : (Jvm.Cond.methodLink "java/lang/String" (492 : Nat) ({ cls := "java/lang/String", name := "isLatin1", desc := "()Z" } : Jvm.MethodName)).before a0 Z = true := hw _ (List.mem_of_getElem? (i := 41) rfl)
theorem own_w45 {Z : State} {a0 : Array Value} (hw : ∀ d ∈ tables_1, d.before a0 Z = true) : (Jvm.Cond.code ({ cls := "java/lang/String", name := "isLatin1", desc := "()Z" } : Jvm.MethodName) jdk_42_method_154_code (1 : Nat) (Option.some Jvm.ClassFile.FieldType.boolean)).before a0 Z = true := hw _ (List.mem_of_getElem? (i := 45) rfl)
theorem pd_7 : parseMethodDescriptor "()Z" = some ⟨[], some .boolean⟩ := by decide +kernel
theorem own_w44 {Z : State} {a0 : Array Value} (hw : ∀ d ∈ tables_1, d.before a0 Z = true) : (Jvm.Cond.selects "java/lang/String" ({ cls := "java/lang/String", name := "isLatin1", desc := "()Z" } : Jvm.MethodName) ({ cls := "java/lang/String", name := "isLatin1", desc := "()Z" } : Jvm.MethodName)).before a0 Z = true := hw _ (List.mem_of_getElem? (i := 44) rfl)
theorem own_w42 {Z : State} {a0 : Array Value} (hw : ∀ d ∈ tables_1, d.before a0 Z = true) : (Jvm.Cond.declares ({ cls := "java/lang/String", name := "isLatin1", desc := "()Z" } : Jvm.MethodName)).before a0 Z = true := hw _ (List.mem_of_getElem? (i := 42) rfl)
theorem own_w43 {Z : State} {a0 : Array Value} (hw : ∀ d ∈ tables_1, d.before a0 Z = true) : (Jvm.Cond.instanceMethod ({ cls := "java/lang/String", name := "isLatin1", desc := "()Z" } : Jvm.MethodName)).before a0 Z = true := hw _ (List.mem_of_getElem? (i := 43) rfl)
theorem d30_4 : decode jdk_42_method_56_code 4 = .ok (.ifCond .eq 12, 3) := by decide +kernel
theorem d30_7 : decode jdk_42_method_56_code 7 = .ok (.aload_n 0, 1) := by decide +kernel
theorem d30_8 : decode jdk_42_method_56_code 8 = .ok (.getfield 9, 3) := by decide +kernel
theorem d30_11 : decode jdk_42_method_56_code 11 = .ok (.iload_n 1, 1) := by decide +kernel
theorem d30_12 : decode jdk_42_method_56_code 12 = .ok (.invokestatic 495, 3) := by decide +kernel
theorem own_w138 {Z : State} {a0 : Array Value} (hw : ∀ d ∈ tables_1, d.before a0 Z = true) : (Jvm.Cond.methodLink "java/lang/String" (495 : Nat) ({ cls := "java/lang/StringLatin1", name := "charAt", desc := "([BI)C" } : Jvm.MethodName)).before a0 Z = true := hw _ (List.mem_of_getElem? (i := 138) rfl)
theorem own_w140 {Z : State} {a0 : Array Value} (hw : ∀ d ∈ tables_1, d.before a0 Z = true) : (Jvm.Cond.code ({ cls := "java/lang/StringLatin1", name := "charAt", desc := "([BI)C" } : Jvm.MethodName) jdk_43_method_2_code (2 : Nat) (Option.some Jvm.ClassFile.FieldType.char)).before a0 Z = true := hw _ (List.mem_of_getElem? (i := 140) rfl)
theorem own_w59 {Z : State} {a0 : Array Value} (hw : ∀ d ∈ tables_1, d.before a0 Z = true) : (Jvm.Cond.initialized "java/lang/StringLatin1").before a0 Z = true := hw _ (List.mem_of_getElem? (i := 59) rfl)
theorem pd_8 : parseMethodDescriptor "([BI)C" = some ⟨[(.array .byte), .int], some .char⟩ := by decide +kernel
theorem own_w139 {Z : State} {a0 : Array Value} (hw : ∀ d ∈ tables_1, d.before a0 Z = true) : (Jvm.Cond.static ({ cls := "java/lang/StringLatin1", name := "charAt", desc := "([BI)C" } : Jvm.MethodName)).before a0 Z = true := hw _ (List.mem_of_getElem? (i := 139) rfl)
theorem d30_15 : decode jdk_42_method_56_code 15 = .ok (.ireturn, 1) := by decide +kernel
theorem ef_rm30 (m : MethodId) (x0 : Addr) (x1 : Int32) : entryFrame m #[(.ref x0), (.int x1)] 2 = mkF m 0 #[.val (.ref x0), .val (.int x1)] [] := by first | (simp [entryFrame, mkF, argsToLocals, Value.category]; done) | rfl
def Q30 (Z : State) (a1 : Addr) (b1 : Addr) (k1 : ClassId) (z1 : Int32) (xs : List Int32) (ii : Int32) (cs : Int32) (fm : Value) (h0 : Heap) (n0 : Nat) (v : Option Value) (h : Heap) (L : List Loc) : Prop := v = some (.int (own_c (xs.getD ii.toNatClampNeg 0))) ∧ Fr n0 L ∧ h = h0
set_option maxRecDepth 65536 in
set_option maxHeartbeats 40000000 in
theorem rm30 (l : Launch) (Z : State) (a0 : Array Value) (hw : ∀ d ∈ tables_1, d.before a0 Z = true) (ws : List Jvm.Cond) (a1 : Addr) (b1 : Addr) (k1 : ClassId) (z1 : Int32) (xs : List Int32) (ii : Int32) (cs : Int32) (fm : Value) (h0 : Heap) (n0 : Nat) (O0 : Old Z n0 h0) (FS : OwnSt Z cs fm) (E1 : Exa Z h0 a1 "java/lang/String") (Fc1 : Fld Z h0 a1 "java/lang/String" "coder" "B" (.int (0 : Int32))) (Fv1 : Fld Z h0 a1 "java/lang/String" "value" "[B" (.ref b1)) (V1 : Arv Z h0 b1 k1 .byte z1 (xs.map Value.int) (.int (0 : Int32))) (hi0 : ¬ ii < (0 : Int32)) (hi1 : ii < z1) :
    MetFree l (⟨"java/lang/String", "charAt", "(I)C"⟩ : MethodName) (head1 (Jvm.Cond.code (⟨"java/lang/String", "charAt", "(I)C"⟩ : MethodName) jdk_42_method_56_code 2 (some .char) :: ws) ({ frames := 3, cells := 0, slots := 0, locals := 40 } : Room)) (fun a U => a = #[(.ref a1), (.int ii)] ∧ Z.Warmed39 U.vm ∧ U.heap = h0) (fun _ _ _ _ _ => True) (fun _ U o U' => ∃ v L, o = .returned v ∧ Q30 Z a1 b1 k1 z1 xs ii cs fm h0 n0 v U'.heap L ∧ FrameEnd U o U' L ({ frames := 3, cells := 0, slots := 0, locals := 40 } : Room).cells ({ frames := 3, cells := 0, slots := 0, locals := 40 } : Room).slots) := by
  refine MetFree.of_bodySF (plainFor_of_name pn_String) hisR ?_
  intro p e s m args below meth c s₁ Bd hml0 hP hK
  obtain ⟨rfl, hZ, hh⟩ := hP
  have hx := Bd.exec
  have hby := Bd.bytes
  have hlk : meth.locks = false := BodyLoose.notSynchronized Bd
  have hml : c.maxLocals = 2 := hml0
  have hown : s.vm.findClass "java/lang/String" = some m.cls := findClass_of_methodNamed Bd.named
  have hnm := (name_of_methodNamed Bd.named Bd.method).1
  have X0 : Stand p l e ({ frames := 3, cells := 0, slots := 0, locals := 40 } : Room) s m #[(.ref a1), (.int ii)] below meth c s₁ [] 0 0 := Stand.of_body Bd
  have e0 : s₁.heap = h0 := by rw [← hh, Bd.state]; rfl
  have N0 := Fr.nil n0
  show Goes p e below s (Q30 Z a1 b1 k1 z1 xs ii cs fm h0 n0) ({ frames := 3, cells := 0, slots := 0, locals := 40 } : Room).cells ({ frames := 3, cells := 0, slots := 0, locals := 40 } : Room).slots (s₁.setTop (entryFrame m #[(.ref a1), (.int ii)] 2))
  refine Goes.enter (g' := (mkF m 0 #[.val (.ref a1), .val (.int ii)] [])) (ef_rm30 m a1 ii) ?_
  have FS0 := FS
  obtain ⟨S_COMPACT_STRINGS, hcs, S_fm, hfm⟩ := FS0
  refine Goes.step (fun _ k => pw_aloadN X0.here hx (hb hby d30_0) rfl rfl _ k) ?_
  have f2 := S_COMPACT_STRINGS.ext O0.2
  obtain ⟨cq1, kq1, qa1, qb1, qc1⟩ := isOf hZ e0 E1
  obtain ⟨_, _, ⟨T1, L1, k1, n1⟩, -, X1, ⟨Lc1, hQ1, l1, y1, z1⟩, st1⟩ := X0.virtualBack hx (y := (⟨"java/lang/String", "isLatin1", "()Z"⟩ : MethodName)) (z := (⟨"java/lang/String", "isLatin1", "()Z"⟩ : MethodName)) hown (mvT hZ (own_w41 hw)) (mvT hZ (own_w42 hw)) (notFace_of_selects (args := #[]) (mvT hZ (own_w44 hw))) (mvT hZ (own_w44 hw)) (mvT hZ (own_w43 hw)) (by decide) (backOf (W := 0) (rm8 l Z a0 hw [] a1 b1 k1 z1 xs cs h0 n0 O0 f2 hcs E1 Fc1 Fv1 V1) hZ (own_w45 hw) (own_w8 hw) (by decide) (by decide)) qa1 qc1 (g := (mkF m 1 #[.val (.ref a1), .val (.int ii)] [(.ref a1)])) rfl (by rw [hml]; rfl) (Steps.refl _) (argsL := []) (rest := []) (lenOf pd_7 rfl) rfl (by show 2 * 0 + _ ≤ _; exact Nat.le_of_eq rfl) (hb hby d30_1) (fun _ _ => ⟨rfl, e0, (by decide : 0 + 0 ≤ _), (by decide : 0 + 0 ≤ _)⟩)
  dsimp only [Pt.U, Pt.locs, Pt.cells, Pt.slots] at X1 l1 y1 z1 st1 hQ1
  subst l1 y1 z1
  obtain ⟨rfl, Nq1, eh1⟩ := hQ1
  have N1 := Fr.app N0 Nq1
  refine Goes.via (B := T1.setTop (mkF m 4 #[.val (.ref a1), .val (.int ii)] [(.int 1)])) st1 ?_
  refine Goes.step (fun _ k => pw_ifNo X1.here hx (hb hby d30_4) ((if0 _ _).trans (feq (by decide)).1) _ (pw_aloadN X1.here hx (hb hby d30_7) rfl rfl _ k)) ?_
  obtain ⟨T3, X3, e3, st3⟩ := getF X1 hx hZ hown (host := "") (Or.inl (own_w25 hw)) Via.refl eh1 Fv1 (g := (mkF m 8 #[.val (.ref a1), .val (.int ii)] [(.ref a1)])) rfl rfl (hb hby d30_8)
  refine Goes.step (B := T3.setTop (mkF m 11 #[.val (.ref a1), .val (.int ii)] [(.ref b1)])) st3 ?_
  refine Goes.step (fun _ k => pw_iloadN X3.here hx (hb hby d30_11) rfl _ k) ?_
  obtain ⟨_, _, ⟨T4, L4, k4, n4⟩, -, X4, ⟨Lc4, hQ4, l4, y4, z4⟩, st4⟩ := Jvm.LawKit.callS X3 hx (y := (⟨"java/lang/StringLatin1", "charAt", "([BI)C"⟩ : MethodName)) hown (mvT hZ (own_w138 hw)) (mvT hZ (own_w139 hw)) (mvT hZ (own_w59 hw)) (mvT hZ (own_w140 hw)) (by decide) (backOf (W := 0) (rm31 l Z a0 hw [] b1 k1 z1 xs ii cs fm h0 n0 O0 FS V1 hi0 hi1) hZ (own_w140 hw) (own_w59 hw) (by decide) (by decide)) (g := (mkF m 12 #[.val (.ref a1), .val (.int ii)] [(.int ii), (.ref b1)])) rfl (by rw [hml]; rfl) (argsL := [(.ref b1), (.int ii)]) (rest := []) (lenOf pd_8 rfl) rfl (by show 2 * 0 + _ ≤ _; exact Nat.le_of_eq rfl) (hb hby d30_12) (fun _ _ => ⟨rfl, e3, (by decide : 0 + 0 ≤ _), (by decide : 0 + 0 ≤ _)⟩)
  dsimp only [Pt.U, Pt.locs, Pt.cells, Pt.slots] at X4 l4 y4 z4 st4 hQ4
  subst l4 y4 z4
  obtain ⟨rfl, Nq4, eh4⟩ := hQ4
  have N4 := Fr.app N1 Nq4
  refine Goes.step (B := T4.setTop (mkF m 15 #[.val (.ref a1), .val (.int ii)] [(.int (own_c (xs.getD ii.toNatClampNeg 0)))])) st4 ?_
  exact Goes.retN X4 hx eh4 (t := .char) Bd.returns (by simp) hlk (hb hby d30_15) (by decide) (by decide) (⟨own_nc2 _, N4, rfl⟩)
theorem d24_0 : decode jdk_41_method_12_code 0 = .ok (.iload_n 0, 1) := by decide +kernel
theorem d24_1 : decode jdk_41_method_12_code 1 = .ok (.ifCond .lt 13, 3) := by decide +kernel
theorem d24_4 : decode jdk_41_method_12_code 4 = .ok (.iload_n 0, 1) := by decide +kernel
theorem d24_5 : decode jdk_41_method_12_code 5 = .ok (.iload_n 1, 1) := by decide +kernel
theorem d24_6 : decode jdk_41_method_12_code 6 = .ok (.if_icmp .gt 8, 3) := by decide +kernel
theorem d24_9 : decode jdk_41_method_12_code 9 = .ok (.iload_n 1, 1) := by decide +kernel
theorem d24_10 : decode jdk_41_method_12_code 10 = .ok (.iload_n 2, 1) := by decide +kernel
theorem d24_11 : decode jdk_41_method_12_code 11 = .ok (.if_icmp .le 11, 3) := by decide +kernel
theorem d24_22 : decode jdk_41_method_12_code 22 = .ok (.iload_n 0, 1) := by decide +kernel
theorem d24_23 : decode jdk_41_method_12_code 23 = .ok (.ireturn, 1) := by decide +kernel
theorem ef_rm24 (m : MethodId) (x0 : Int32) (x1 : Int32) (x2 : Int32) (x3 : Value) (hx3 : x3.isRef = true) : entryFrame m #[(.int x0), (.int x1), (.int x2), x3] 4 = mkF m 0 #[.val (.int x0), .val (.int x1), .val (.int x2), .val x3] [] := by rcases own_refc hx3 with rfl | ⟨r3, rfl⟩ <;> first | (simp [entryFrame, mkF, argsToLocals, Value.category]; done) | rfl
def Q24 (Z : State) (bb : Int32) (ee : Int32) (zz : Int32) (fm : Value) (h0 : Heap) (n0 : Nat) (v : Option Value) (h : Heap) (L : List Loc) : Prop := v = some (.int bb) ∧ Fr n0 L ∧ h = h0
set_option maxRecDepth 65536 in
set_option maxHeartbeats 40000000 in
theorem rm24 (l : Launch) (Z : State) (a0 : Array Value) (hw : ∀ d ∈ tables_1, d.before a0 Z = true) (ws : List Jvm.Cond) (bb : Int32) (ee : Int32) (zz : Int32) (fm : Value) (h0 : Heap) (n0 : Nat) (O0 : Old Z n0 h0) (hb0 : 0 ≤ bb.toInt) (hbe : bb.toInt ≤ ee.toInt) (hez : ee.toInt ≤ zz.toInt) (hfm : fm.isRef = true) :
    MetFree l (⟨"jdk/internal/util/Preconditions", "checkFromToIndex", "(IIILjava/util/function/BiFunction;)I"⟩ : MethodName) (head1 (Jvm.Cond.code (⟨"jdk/internal/util/Preconditions", "checkFromToIndex", "(IIILjava/util/function/BiFunction;)I"⟩ : MethodName) jdk_41_method_12_code 4 (some .int) :: ws) ({ frames := 0, cells := 0, slots := 0, locals := 0 } : Room)) (fun a U => a = #[(.int bb), (.int ee), (.int zz), fm] ∧ Z.Warmed39 U.vm ∧ U.heap = h0) (fun _ _ _ _ _ => True) (fun _ U o U' => ∃ v L, o = .returned v ∧ Q24 Z bb ee zz fm h0 n0 v U'.heap L ∧ FrameEnd U o U' L ({ frames := 0, cells := 0, slots := 0, locals := 0 } : Room).cells ({ frames := 0, cells := 0, slots := 0, locals := 0 } : Room).slots) := by
  refine MetFree.of_bodySF (plainFor_of_name pn_Preconditions) hisR ?_
  intro p e s m args below meth c s₁ Bd hml0 hP hK
  obtain ⟨rfl, hZ, hh⟩ := hP
  have hx := Bd.exec
  have hby := Bd.bytes
  have hlk : meth.locks = false := BodyLoose.notSynchronized Bd
  have hml : c.maxLocals = 4 := hml0
  have hown : s.vm.findClass "jdk/internal/util/Preconditions" = some m.cls := findClass_of_methodNamed Bd.named
  have hnm := (name_of_methodNamed Bd.named Bd.method).1
  have X0 : Stand p l e ({ frames := 0, cells := 0, slots := 0, locals := 0 } : Room) s m #[(.int bb), (.int ee), (.int zz), fm] below meth c s₁ [] 0 0 := Stand.of_body Bd
  have e0 : s₁.heap = h0 := by rw [← hh, Bd.state]; rfl
  have N0 := Fr.nil n0
  show Goes p e below s (Q24 Z bb ee zz fm h0 n0) ({ frames := 0, cells := 0, slots := 0, locals := 0 } : Room).cells ({ frames := 0, cells := 0, slots := 0, locals := 0 } : Room).slots (s₁.setTop (entryFrame m #[(.int bb), (.int ee), (.int zz), fm] 4))
  refine Goes.enter (g' := (mkF m 0 #[.val (.int bb), .val (.int ee), .val (.int zz), .val fm] [])) (ef_rm24 m bb ee zz fm hfm) ?_
  refine Goes.step (fun _ k => pw_iloadN X0.here hx (hb hby d24_0) rfl _ (pw_ifNo X0.here hx (hb hby d24_1) ((if0 _ _).trans (flt (own_nlt (by rw [own_i0]; exact hb0))).1) _ (pw_iloadN X0.here hx (hb hby d24_4) rfl _ (pw_iloadN X0.here hx (hb hby d24_5) rfl _ (pw_icmpNo X0.here hx (hb hby d24_6) (flt (own_nlt hbe)).2.2.1 _ (pw_iloadN X0.here hx (hb hby d24_9) rfl _ k)))))) ?_
  refine Goes.step (fun _ k => pw_iloadN X0.here hx (hb hby d24_10) rfl _ (pw_icmpYes X0.here hx (pc' := 22) (hb hby d24_11) (flt (own_nlt hez)).2.2.2 (by decide) (by decide) _ (pw_iloadN X0.here hx (hb hby d24_22) rfl _ k))) ?_
  exact Goes.retI X0 hx e0 Bd.returns hlk (hb hby d24_23) (by decide) (by decide) (⟨rfl, N0, rfl⟩)
theorem d23_0 : decode jdk_42_method_158_code 0 = .ok (.iload_n 0, 1) := by decide +kernel
theorem d23_1 : decode jdk_42_method_158_code 1 = .ok (.iload_n 1, 1) := by decide +kernel
theorem d23_2 : decode jdk_42_method_158_code 2 = .ok (.iload_n 2, 1) := by decide +kernel
theorem d23_3 : decode jdk_42_method_158_code 3 = .ok (.getstatic 1053, 3) := by decide +kernel
theorem d23_6 : decode jdk_42_method_158_code 6 = .ok (.invokestatic 1062, 3) := by decide +kernel
theorem own_w106 {Z : State} {a0 : Array Value} (hw : ∀ d ∈ tables_1, d.before a0 Z = true) : (Jvm.Cond.methodLink "java/lang/String" (1062 : Nat) ({ cls := "jdk/internal/util/Preconditions", name := "checkFromToIndex", desc := "(IIILjava/util/function/BiFunction;)I" } : Jvm.MethodName)).before a0 Z = true := hw _ (List.mem_of_getElem? (i := 106) rfl)
theorem own_w108 {Z : State} {a0 : Array Value} (hw : ∀ d ∈ tables_1, d.before a0 Z = true) : (Jvm.Cond.code ({ cls := "jdk/internal/util/Preconditions", name := "checkFromToIndex", desc := "(IIILjava/util/function/BiFunction;)I" } : Jvm.MethodName) jdk_41_method_12_code (4 : Nat) (Option.some Jvm.ClassFile.FieldType.int)).before a0 Z = true := hw _ (List.mem_of_getElem? (i := 108) rfl)
theorem pd_9 : parseMethodDescriptor "(IIILjava/util/function/BiFunction;)I" = some ⟨[.int, .int, .int, (.object "java/util/function/BiFunction")], some .int⟩ := by decide +kernel
theorem own_w107 {Z : State} {a0 : Array Value} (hw : ∀ d ∈ tables_1, d.before a0 Z = true) : (Jvm.Cond.static ({ cls := "jdk/internal/util/Preconditions", name := "checkFromToIndex", desc := "(IIILjava/util/function/BiFunction;)I" } : Jvm.MethodName)).before a0 Z = true := hw _ (List.mem_of_getElem? (i := 107) rfl)
theorem d23_9 : decode jdk_42_method_158_code 9 = .ok (.pop, 1) := by decide +kernel
theorem d23_10 : decode jdk_42_method_158_code 10 = .ok (.return_, 1) := by decide +kernel
theorem ef_rm23 (m : MethodId) (x0 : Int32) (x1 : Int32) (x2 : Int32) : entryFrame m #[(.int x0), (.int x1), (.int x2)] 3 = mkF m 0 #[.val (.int x0), .val (.int x1), .val (.int x2)] [] := by first | (simp [entryFrame, mkF, argsToLocals, Value.category]; done) | rfl
def Q23 (Z : State) (bb : Int32) (ee : Int32) (zz : Int32) (cs : Int32) (fm : Value) (h0 : Heap) (n0 : Nat) (v : Option Value) (h : Heap) (L : List Loc) : Prop := v = none ∧ Fr n0 L ∧ h = h0
set_option maxRecDepth 65536 in
set_option maxHeartbeats 40000000 in
theorem rm23 (l : Launch) (Z : State) (a0 : Array Value) (hw : ∀ d ∈ tables_1, d.before a0 Z = true) (ws : List Jvm.Cond) (bb : Int32) (ee : Int32) (zz : Int32) (cs : Int32) (fm : Value) (h0 : Heap) (n0 : Nat) (O0 : Old Z n0 h0) (FS : OwnSt Z cs fm) (hb0 : 0 ≤ bb.toInt) (hbe : bb.toInt ≤ ee.toInt) (hez : ee.toInt ≤ zz.toInt) :
    MetFree l (⟨"java/lang/String", "checkBoundsBeginEnd", "(III)V"⟩ : MethodName) (head1 (Jvm.Cond.code (⟨"java/lang/String", "checkBoundsBeginEnd", "(III)V"⟩ : MethodName) jdk_42_method_158_code 3 none :: ws) ({ frames := 1, cells := 0, slots := 0, locals := 15 } : Room)) (fun a U => a = #[(.int bb), (.int ee), (.int zz)] ∧ Z.Warmed39 U.vm ∧ U.heap = h0) (fun _ _ _ _ _ => True) (fun _ U o U' => ∃ v L, o = .returned v ∧ Q23 Z bb ee zz cs fm h0 n0 v U'.heap L ∧ FrameEnd U o U' L ({ frames := 1, cells := 0, slots := 0, locals := 15 } : Room).cells ({ frames := 1, cells := 0, slots := 0, locals := 15 } : Room).slots) := by
  refine MetFree.of_bodySF (plainFor_of_name pn_String) hisR ?_
  intro p e s m args below meth c s₁ Bd hml0 hP hK
  obtain ⟨rfl, hZ, hh⟩ := hP
  have hx := Bd.exec
  have hby := Bd.bytes
  have hlk : meth.locks = false := BodyLoose.notSynchronized Bd
  have hml : c.maxLocals = 3 := hml0
  have hown : s.vm.findClass "java/lang/String" = some m.cls := findClass_of_methodNamed Bd.named
  have hnm := (name_of_methodNamed Bd.named Bd.method).1
  have X0 : Stand p l e ({ frames := 1, cells := 0, slots := 0, locals := 15 } : Room) s m #[(.int bb), (.int ee), (.int zz)] below meth c s₁ [] 0 0 := Stand.of_body Bd
  have e0 : s₁.heap = h0 := by rw [← hh, Bd.state]; rfl
  have N0 := Fr.nil n0
  show Goes p e below s (Q23 Z bb ee zz cs fm h0 n0) ({ frames := 1, cells := 0, slots := 0, locals := 15 } : Room).cells ({ frames := 1, cells := 0, slots := 0, locals := 15 } : Room).slots (s₁.setTop (entryFrame m #[(.int bb), (.int ee), (.int zz)] 3))
  refine Goes.enter (g' := (mkF m 0 #[.val (.int bb), .val (.int ee), .val (.int zz)] [])) (ef_rm23 m bb ee zz) ?_
  have FS0 := FS
  obtain ⟨S_COMPACT_STRINGS, hcs, S_fm, hfm⟩ := FS0
  refine Goes.step (fun _ k => pw_iloadN X0.here hx (hb hby d23_0) rfl _ (pw_iloadN X0.here hx (hb hby d23_1) rfl _ (pw_iloadN X0.here hx (hb hby d23_2) rfl _ k))) ?_
  have f1 := S_fm.ext O0.2
  obtain ⟨T2, X2, e2, st2⟩ := getS2 X0 hx hZ hown (host := "") (Or.inl (own_w104 hw)) Via.refl e0 f1 (g := (mkF m 3 #[.val (.int bb), .val (.int ee), .val (.int zz)] [(.int zz), (.int ee), (.int bb)])) rfl (hb hby d23_3)
  refine Goes.step (B := T2.setTop (mkF m 6 #[.val (.int bb), .val (.int ee), .val (.int zz)] [fm, (.int zz), (.int ee), (.int bb)])) st2 ?_
  obtain ⟨_, _, ⟨T3, L3, k3, n3⟩, -, X3, ⟨Lc3, hQ3, l3, y3, z3⟩, st3⟩ := Jvm.LawKit.callS X2 hx (y := (⟨"jdk/internal/util/Preconditions", "checkFromToIndex", "(IIILjava/util/function/BiFunction;)I"⟩ : MethodName)) hown (mvT hZ (own_w106 hw)) (mvT hZ (own_w107 hw)) (mvT hZ (own_w105 hw)) (mvT hZ (own_w108 hw)) (by decide) (backOf (W := 0) (rm24 l Z a0 hw [] bb ee zz fm h0 n0 O0 hb0 hbe hez hfm) hZ (own_w108 hw) (own_w105 hw) (by decide) (by decide)) (g := (mkF m 6 #[.val (.int bb), .val (.int ee), .val (.int zz)] [fm, (.int zz), (.int ee), (.int bb)])) rfl (by rw [hml]; rfl) (argsL := [(.int bb), (.int ee), (.int zz), fm]) (rest := []) (lenOf pd_9 rfl) rfl (by show 2 * 0 + _ ≤ _; exact Nat.le_of_eq rfl) (hb hby d23_6) (fun _ _ => ⟨rfl, e2, (by decide : 0 + 0 ≤ _), (by decide : 0 + 0 ≤ _)⟩)
  dsimp only [Pt.U, Pt.locs, Pt.cells, Pt.slots] at X3 l3 y3 z3 st3 hQ3
  subst l3 y3 z3
  obtain ⟨rfl, Nq3, eh3⟩ := hQ3
  have N3 := Fr.app N0 Nq3
  refine Goes.step (B := T3.setTop (mkF m 9 #[.val (.int bb), .val (.int ee), .val (.int zz)] [(.int bb)])) st3 ?_
  refine Goes.step (fun _ k => pw_pop X3.here hx (hb hby d23_9) rfl _ k) ?_
  exact Goes.retV X3 hx eh3 Bd.returns hlk (hb hby d23_10) (by decide) (by decide) (⟨rfl, N3, rfl⟩)
theorem d28_0 : decode jdk_65_method_131_code 0 = .ok (.iload_n 1, 1) := by decide +kernel
theorem d28_1 : decode jdk_65_method_131_code 1 = .ok (.iload_n 0, 1) := by decide +kernel
theorem d28_2 : decode jdk_65_method_131_code 2 = .ok (.if_icmp .ge 35, 3) := by decide +kernel
theorem d28_37 : decode jdk_65_method_131_code 37 = .ok (.return_, 1) := by decide +kernel
theorem pn_Arrays : plainName "java/util/Arrays" = true := by first | (simp [plainName, overriddenIn]; done) | decide +kernel
theorem ef_rm28 (m : MethodId) (x0 : Int32) (x1 : Int32) : entryFrame m #[(.int x0), (.int x1)] 2 = mkF m 0 #[.val (.int x0), .val (.int x1)] [] := by first | (simp [entryFrame, mkF, argsToLocals, Value.category]; done) | rfl
def Q28 (Z : State) (bb : Int32) (ee : Int32) (h0 : Heap) (n0 : Nat) (v : Option Value) (h : Heap) (L : List Loc) : Prop := v = none ∧ Fr n0 L ∧ h = h0
set_option maxRecDepth 65536 in
set_option maxHeartbeats 40000000 in
theorem rm28 (l : Launch) (Z : State) (a0 : Array Value) (hw : ∀ d ∈ tables_1, d.before a0 Z = true) (ws : List Jvm.Cond) (bb : Int32) (ee : Int32) (h0 : Heap) (n0 : Nat) (O0 : Old Z n0 h0) (hbe : bb.toInt ≤ ee.toInt) :
    MetFree l (⟨"java/util/Arrays", "checkLength", "(II)V"⟩ : MethodName) (head1 (Jvm.Cond.code (⟨"java/util/Arrays", "checkLength", "(II)V"⟩ : MethodName) jdk_65_method_131_code 2 none :: ws) ({ frames := 0, cells := 0, slots := 0, locals := 0 } : Room)) (fun a U => a = #[(.int bb), (.int ee)] ∧ Z.Warmed39 U.vm ∧ U.heap = h0) (fun _ _ _ _ _ => True) (fun _ U o U' => ∃ v L, o = .returned v ∧ Q28 Z bb ee h0 n0 v U'.heap L ∧ FrameEnd U o U' L ({ frames := 0, cells := 0, slots := 0, locals := 0 } : Room).cells ({ frames := 0, cells := 0, slots := 0, locals := 0 } : Room).slots) := by
  refine MetFree.of_bodySF (plainFor_of_name pn_Arrays) hisR ?_
  intro p e s m args below meth c s₁ Bd hml0 hP hK
  obtain ⟨rfl, hZ, hh⟩ := hP
  have hx := Bd.exec
  have hby := Bd.bytes
  have hlk : meth.locks = false := BodyLoose.notSynchronized Bd
  have hml : c.maxLocals = 2 := hml0
  have hown : s.vm.findClass "java/util/Arrays" = some m.cls := findClass_of_methodNamed Bd.named
  have hnm := (name_of_methodNamed Bd.named Bd.method).1
  have X0 : Stand p l e ({ frames := 0, cells := 0, slots := 0, locals := 0 } : Room) s m #[(.int bb), (.int ee)] below meth c s₁ [] 0 0 := Stand.of_body Bd
  have e0 : s₁.heap = h0 := by rw [← hh, Bd.state]; rfl
  have N0 := Fr.nil n0
  show Goes p e below s (Q28 Z bb ee h0 n0) ({ frames := 0, cells := 0, slots := 0, locals := 0 } : Room).cells ({ frames := 0, cells := 0, slots := 0, locals := 0 } : Room).slots (s₁.setTop (entryFrame m #[(.int bb), (.int ee)] 2))
  refine Goes.enter (g' := (mkF m 0 #[.val (.int bb), .val (.int ee)] [])) (ef_rm28 m bb ee) ?_
  refine Goes.step (fun _ k => pw_iloadN X0.here hx (hb hby d28_0) rfl _ (pw_iloadN X0.here hx (hb hby d28_1) rfl _ (pw_icmpYes X0.here hx (pc' := 37) (hb hby d28_2) (flt (own_nlt hbe)).2.1 (by decide) (by decide) _ k))) ?_
  exact Goes.retV X0 hx e0 Bd.returns hlk (hb hby d28_37) (by decide) (by decide) (⟨rfl, N0, rfl⟩)
theorem d27_0 : decode jdk_65_method_133_code 0 = .ok (.iload_n 1, 1) := by decide +kernel
theorem d27_1 : decode jdk_65_method_133_code 1 = .ok (.iload_n 2, 1) := by decide +kernel
theorem d27_2 : decode jdk_65_method_133_code 2 = .ok (.invokestatic 343, 3) := by decide +kernel
theorem own_w122 {Z : State} {a0 : Array Value} (hw : ∀ d ∈ tables_1, d.before a0 Z = true) : (Jvm.Cond.methodLink "java/util/Arrays" (343 : Nat) ({ cls := "java/util/Arrays", name := "checkLength", desc := "(II)V" } : Jvm.MethodName)).before a0 Z = true := hw _ (List.mem_of_getElem? (i := 122) rfl)
theorem own_w124 {Z : State} {a0 : Array Value} (hw : ∀ d ∈ tables_1, d.before a0 Z = true) : (Jvm.Cond.code ({ cls := "java/util/Arrays", name := "checkLength", desc := "(II)V" } : Jvm.MethodName) jdk_65_method_131_code (2 : Nat) (Option.none : Option Jvm.ClassFile.FieldType)).before a0 Z = true := hw _ (List.mem_of_getElem? (i := 124) rfl)
theorem own_w117 {Z : State} {a0 : Array Value} (hw : ∀ d ∈ tables_1, d.before a0 Z = true) : (Jvm.Cond.initialized "java/util/Arrays").before a0 Z = true := hw _ (List.mem_of_getElem? (i := 117) rfl)
theorem own_w123 {Z : State} {a0 : Array Value} (hw : ∀ d ∈ tables_1, d.before a0 Z = true) : (Jvm.Cond.static ({ cls := "java/util/Arrays", name := "checkLength", desc := "(II)V" } : Jvm.MethodName)).before a0 Z = true := hw _ (List.mem_of_getElem? (i := 123) rfl)
theorem d27_5 : decode jdk_65_method_133_code 5 = .ok (.iload_n 2, 1) := by decide +kernel
theorem d27_6 : decode jdk_65_method_133_code 6 = .ok (.iload_n 1, 1) := by decide +kernel
theorem d27_7 : decode jdk_65_method_133_code 7 = .ok (.isub, 1) := by decide +kernel
theorem d27_8 : decode jdk_65_method_133_code 8 = .ok (.istore_n 3, 1) := by decide +kernel
theorem d27_9 : decode jdk_65_method_133_code 9 = .ok (.iload_n 3, 1) := by decide +kernel
theorem d27_10 : decode jdk_65_method_133_code 10 = .ok (.newarray .byte, 2) := by decide +kernel
theorem d27_12 : decode jdk_65_method_133_code 12 = .ok (.astore 4, 2) := by decide +kernel
theorem d27_14 : decode jdk_65_method_133_code 14 = .ok (.aload_n 0, 1) := by decide +kernel
theorem d27_15 : decode jdk_65_method_133_code 15 = .ok (.iload_n 1, 1) := by decide +kernel
theorem d27_16 : decode jdk_65_method_133_code 16 = .ok (.aload 4, 2) := by decide +kernel
theorem d27_18 : decode jdk_65_method_133_code 18 = .ok (.iconst 0, 1) := by decide +kernel
theorem d27_19 : decode jdk_65_method_133_code 19 = .ok (.aload_n 0, 1) := by decide +kernel
theorem d27_20 : decode jdk_65_method_133_code 20 = .ok (.arraylength, 1) := by decide +kernel
theorem d27_21 : decode jdk_65_method_133_code 21 = .ok (.iload_n 1, 1) := by decide +kernel
theorem d27_22 : decode jdk_65_method_133_code 22 = .ok (.isub, 1) := by decide +kernel
theorem d27_23 : decode jdk_65_method_133_code 23 = .ok (.iload_n 3, 1) := by decide +kernel
theorem d27_24 : decode jdk_65_method_133_code 24 = .ok (.invokestatic 304, 3) := by decide +kernel
theorem own_w125 {Z : State} {a0 : Array Value} (hw : ∀ d ∈ tables_1, d.before a0 Z = true) : (Jvm.Cond.methodLink "java/util/Arrays" (304 : Nat) ({ cls := "java/lang/Math", name := "min", desc := "(II)I" } : Jvm.MethodName)).before a0 Z = true := hw _ (List.mem_of_getElem? (i := 125) rfl)
theorem own_w70 {Z : State} {a0 : Array Value} (hw : ∀ d ∈ tables_1, d.before a0 Z = true) : (Jvm.Cond.code ({ cls := "java/lang/Math", name := "min", desc := "(II)I" } : Jvm.MethodName) jdk_29_method_69_code (2 : Nat) (Option.some Jvm.ClassFile.FieldType.int)).before a0 Z = true := hw _ (List.mem_of_getElem? (i := 70) rfl)
theorem own_w66 {Z : State} {a0 : Array Value} (hw : ∀ d ∈ tables_1, d.before a0 Z = true) : (Jvm.Cond.initialized "java/lang/Math").before a0 Z = true := hw _ (List.mem_of_getElem? (i := 66) rfl)
theorem pd_10 : parseMethodDescriptor "(II)I" = some ⟨[.int, .int], some .int⟩ := by decide +kernel
theorem own_w69 {Z : State} {a0 : Array Value} (hw : ∀ d ∈ tables_1, d.before a0 Z = true) : (Jvm.Cond.static ({ cls := "java/lang/Math", name := "min", desc := "(II)I" } : Jvm.MethodName)).before a0 Z = true := hw _ (List.mem_of_getElem? (i := 69) rfl)
theorem d27_27 : decode jdk_65_method_133_code 27 = .ok (.invokestatic 150, 3) := by decide +kernel
theorem own_w126 {Z : State} {a0 : Array Value} (hw : ∀ d ∈ tables_1, d.before a0 Z = true) : (Jvm.Cond.methodLink "java/util/Arrays" (150 : Nat) ({ cls := "java/lang/System", name := "arraycopy", desc := "(Ljava/lang/Object;ILjava/lang/Object;II)V" } : Jvm.MethodName)).before a0 Z = true := hw _ (List.mem_of_getElem? (i := 126) rfl)
theorem own_w129 {Z : State} {a0 : Array Value} (hw : ∀ d ∈ tables_1, d.before a0 Z = true) : (Jvm.Cond.native ({ cls := "java/lang/System", name := "arraycopy", desc := "(Ljava/lang/Object;ILjava/lang/Object;II)V" } : Jvm.MethodName)).before a0 Z = true := hw _ (List.mem_of_getElem? (i := 129) rfl)
theorem own_w127 {Z : State} {a0 : Array Value} (hw : ∀ d ∈ tables_1, d.before a0 Z = true) : (Jvm.Cond.static ({ cls := "java/lang/System", name := "arraycopy", desc := "(Ljava/lang/Object;ILjava/lang/Object;II)V" } : Jvm.MethodName)).before a0 Z = true := hw _ (List.mem_of_getElem? (i := 127) rfl)
theorem own_w128 {Z : State} {a0 : Array Value} (hw : ∀ d ∈ tables_1, d.before a0 Z = true) : (Jvm.Cond.initialized "java/lang/System").before a0 Z = true := hw _ (List.mem_of_getElem? (i := 128) rfl)
theorem d27_30 : decode jdk_65_method_133_code 30 = .ok (.aload 4, 2) := by decide +kernel
theorem d27_32 : decode jdk_65_method_133_code 32 = .ok (.areturn, 1) := by decide +kernel
theorem ef_rmCRB (m : MethodId) (x0 : Addr) (x1 : Int32) (x2 : Int32) : entryFrame m #[(.ref x0), (.int x1), (.int x2)] 5 = mkF m 0 #[.val (.ref x0), .val (.int x1), .val (.int x2), .unset, .unset] [] := by first | (simp [entryFrame, mkF, argsToLocals, Value.category]; done) | rfl
def QCRB (Z : State) (b1 : Addr) (k1 : ClassId) (z1 : Int32) (xs : List Int32) (bb : Int32) (ee : Int32) (h0 : Heap) (n0 : Nat) (v : Option Value) (h : Heap) (L : List Loc) : Prop := ∃ (x : Addr) (k : ClassId) (mm : Int32), v = some (.ref x) ∧ Fr n0 L ∧ Keep h0 h [] ∧ n0 ≤ x ∧ h0.size ≤ x ∧ mm = ee - bb ∧ Arv Z h x k .byte mm ((own_sub xs bb mm).map Value.int) (.int (0 : Int32))
set_option maxRecDepth 65536 in
set_option maxHeartbeats 40000000 in
theorem rmCRB (l : Launch) (Z : State) (a0 : Array Value) (hw : ∀ d ∈ tables_1, d.before a0 Z = true) (ws : List Jvm.Cond) (b1 : Addr) (k1 : ClassId) (z1 : Int32) (xs : List Int32) (bb : Int32) (ee : Int32) (h0 : Heap) (n0 : Nat) (O0 : Old Z n0 h0) (V1 : Arv Z h0 b1 k1 .byte z1 (xs.map Value.int) (.int (0 : Int32))) (hb0 : 0 ≤ bb.toInt) (hbe : bb.toInt ≤ ee.toInt) (hez : ee.toInt ≤ z1.toInt) (hz5 : z1.toInt ≤ 5) :
    MetFree l (⟨"java/util/Arrays", "copyOfRangeByte", "([BII)[B"⟩ : MethodName) (head1 (Jvm.Cond.code (⟨"java/util/Arrays", "copyOfRangeByte", "([BII)[B"⟩ : MethodName) jdk_65_method_133_code 5 (some (.array .byte)) :: ws) ({ frames := 1, cells := 1, slots := 5, locals := 18 } : Room)) (fun a U => a = #[(.ref b1), (.int bb), (.int ee)] ∧ Z.Warmed39 U.vm ∧ U.heap = h0) (fun _ _ _ _ _ => True) (fun _ U o U' => ∃ v L, o = .returned v ∧ QCRB Z b1 k1 z1 xs bb ee h0 n0 v U'.heap L ∧ FrameEnd U o U' L ({ frames := 1, cells := 1, slots := 5, locals := 18 } : Room).cells ({ frames := 1, cells := 1, slots := 5, locals := 18 } : Room).slots) := by
  refine MetFree.of_bodySF (plainFor_of_name pn_Arrays) hisR ?_
  intro p e s m args below meth c s₁ Bd hml0 hP hK
  obtain ⟨rfl, hZ, hh⟩ := hP
  have hx := Bd.exec
  have hby := Bd.bytes
  have hlk : meth.locks = false := BodyLoose.notSynchronized Bd
  have hml : c.maxLocals = 5 := hml0
  have hown : s.vm.findClass "java/util/Arrays" = some m.cls := findClass_of_methodNamed Bd.named
  have hnm := (name_of_methodNamed Bd.named Bd.method).1
  have X0 : Stand p l e ({ frames := 1, cells := 1, slots := 5, locals := 18 } : Room) s m #[(.ref b1), (.int bb), (.int ee)] below meth c s₁ [] 0 0 := Stand.of_body Bd
  have e0 : s₁.heap = h0 := by rw [← hh, Bd.state]; rfl
  have N0 := Fr.nil n0
  show Goes p e below s (QCRB Z b1 k1 z1 xs bb ee h0 n0) ({ frames := 1, cells := 1, slots := 5, locals := 18 } : Room).cells ({ frames := 1, cells := 1, slots := 5, locals := 18 } : Room).slots (s₁.setTop (entryFrame m #[(.ref b1), (.int bb), (.int ee)] 5))
  refine Goes.enter (g' := (mkF m 0 #[.val (.ref b1), .val (.int bb), .val (.int ee), .unset, .unset] [])) (ef_rmCRB m b1 bb ee) ?_
  refine Goes.step (fun _ k => pw_iloadN X0.here hx (hb hby d27_0) rfl _ (pw_iloadN X0.here hx (hb hby d27_1) rfl _ k)) ?_
  obtain ⟨_, _, ⟨T1, L1, k1, n1⟩, -, X1, ⟨Lc1, hQ1, l1, y1, z1⟩, st1⟩ := Jvm.LawKit.callS X0 hx (y := (⟨"java/util/Arrays", "checkLength", "(II)V"⟩ : MethodName)) hown (mvT hZ (own_w122 hw)) (mvT hZ (own_w123 hw)) (mvT hZ (own_w117 hw)) (mvT hZ (own_w124 hw)) (by decide) (backOf (W := 0) (rm28 l Z a0 hw [] bb ee h0 n0 O0 hbe) hZ (own_w124 hw) (own_w117 hw) (by decide) (by decide)) (g := (mkF m 2 #[.val (.ref b1), .val (.int bb), .val (.int ee), .unset, .unset] [(.int ee), (.int bb)])) rfl (by rw [hml]; rfl) (argsL := [(.int bb), (.int ee)]) (rest := []) (lenOf pd_6 rfl) rfl (by show 2 * 0 + _ ≤ _; exact Nat.le_of_eq rfl) (hb hby d27_2) (fun _ _ => ⟨rfl, e0, (by decide : 0 + 0 ≤ _), (by decide : 0 + 0 ≤ _)⟩)
  dsimp only [Pt.U, Pt.locs, Pt.cells, Pt.slots] at X1 l1 y1 z1 st1 hQ1
  subst l1 y1 z1
  obtain ⟨rfl, Nq1, eh1⟩ := hQ1
  have N1 := Fr.app N0 Nq1
  refine Goes.step (B := T1.setTop (mkF m 5 #[.val (.ref b1), .val (.int bb), .val (.int ee), .unset, .unset] [])) st1 ?_
  refine Goes.step (fun _ k => pw_iloadN X1.here hx (hb hby d27_5) rfl _ (pw_iloadN X1.here hx (hb hby d27_6) rfl _ (pw_isub X1.here hx (hb hby d27_7) _ k))) ?_
  obtain ⟨mm, hmm⟩ : ∃ z, z = (ee - bb) := ⟨_, rfl⟩
  rw [← hmm]
  have tm := own_dif hmm hb0 hbe
  have hm0 : ¬ mm < (0 : Int32) := own_nlt (by rw [own_i0]; omega)
  have nm := own_nat (j := mm) (by omega)
  have nb := own_nat hb0
  have nz := own_nat (j := z1) (by omega)
  have hm5 : mm.toNatClampNeg ≤ 5 := by omega
  refine Goes.step (fun _ k => pw_istoreN X1.here hx (l' := #[.val (.ref b1), .val (.int bb), .val (.int ee), .val (.int mm), .unset]) (hb hby d27_8) rfl _ (pw_iloadN X1.here hx (hb hby d27_9) rfl _ k)) ?_
  obtain ⟨T2, h2, k2, X2, e2, E2, A2, st2⟩ := newP (aty := .byte) X1 hx hZ (own_w20 hw) eh1 (g := (mkF m 10 #[.val (.ref b1), .val (.int bb), .val (.int ee), .val (.int mm), .unset] [(.int mm)])) rfl (hb hby d27_10) rfl hm0 (cap := 5) hm5 (by decide) (by decide) (by decide)
  obtain ⟨b2, g2⟩ : ∃ z, z = h0.size := ⟨_, rfl⟩
  rw [← g2] at A2 st2
  have ne_b1_b2 : b1 ≠ b2 := Nat.ne_of_lt (Nat.lt_of_lt_of_le V1.lt (Nat.le_of_eq g2.symm))
  have g_b2 : n0 ≤ b2 := Nat.le_trans (own_z O0) (Nat.le_of_eq g2.symm)
  have O_2 := O0.ext E2
  have sz_b2 : h0.size ≤ b2 := Nat.le_trans (Keep.refl h0 []).1 (Nat.le_of_eq g2.symm)
  have K_2 := (Keep.refl h0 []).ext E2
  have V_b2 := Arv.new A2 hm0
  refine Goes.step (B := T2.setTop (mkF m 12 #[.val (.ref b1), .val (.int bb), .val (.int ee), .val (.int mm), .unset] [(.ref b2)])) st2 ?_
  have Vp_b2 : Arv Z h2 b2 k2 .byte mm (List.replicate mm.toNatClampNeg (.int 0)) (.int 0) := Arv.pad V_b2 (pad_rep [] (.int 0) mm.toNatClampNeg)
  refine Goes.step (fun _ k => pw_astore X2.here hx (l' := #[.val (.ref b1), .val (.int bb), .val (.int ee), .val (.int mm), .val (.ref b2)]) (hb hby d27_12) rfl rfl _ (pw_aloadN X2.here hx (hb hby d27_14) rfl rfl _ (pw_iloadN X2.here hx (hb hby d27_15) rfl _ (pw_aload X2.here hx (hb hby d27_16) rfl rfl _ (pw_iconst X2.here hx (v := (0 : Int32)) (hb hby d27_18) rfl _ (pw_aloadN X2.here hx (hb hby d27_19) rfl rfl _ k)))))) ?_
  have f3 := (V1.ext E2)
  obtain ⟨c4, Ar4, -, Sz4, Nn4, -, -⟩ := id f3
  have len4 := X2.arraylength hx (by rw [e2]; exact Ar4.1) (State.isArrayOf_alike hZ.alike Ar4.2.1) (g := (mkF m 20 #[.val (.ref b1), .val (.int bb), .val (.int ee), .val (.int mm), .val (.ref b2)] [(.ref b1), (.int 0), (.ref b2), (.int bb), (.ref b1)])) rfl rfl (hb hby d27_20)
  rw [len_of Sz4 Nn4] at len4
  refine Goes.step (B := T2.setTop (mkF m 21 #[.val (.ref b1), .val (.int bb), .val (.int ee), .val (.int mm), .val (.ref b2)] [(.int z1), (.int 0), (.ref b2), (.int bb), (.ref b1)])) len4 ?_
  refine Goes.step (fun _ k => pw_iloadN X2.here hx (hb hby d27_21) rfl _ (pw_isub X2.here hx (hb hby d27_22) _ (pw_iloadN X2.here hx (hb hby d27_23) rfl _ k))) ?_
  obtain ⟨_, _, ⟨T5, L5, k5, n5⟩, -, X5, ⟨Lc5, hQ5, l5, y5, z5⟩, st5⟩ := Jvm.LawKit.callS X2 hx (y := (⟨"java/lang/Math", "min", "(II)I"⟩ : MethodName)) hown (mvT hZ (own_w125 hw)) (mvT hZ (own_w69 hw)) (mvT hZ (own_w66 hw)) (mvT hZ (own_w70 hw)) (by decide) (backOf (W := 4) (rm14 l Z a0 hw [] (z1 - bb) mm h2 n0 O_2 ) hZ (own_w70 hw) (own_w66 hw) (by decide) (by decide)) (g := (mkF m 24 #[.val (.ref b1), .val (.int bb), .val (.int ee), .val (.int mm), .val (.ref b2)] [(.int mm), (.int (z1 - bb)), (.int 0), (.ref b2), (.int bb), (.ref b1)])) rfl (by rw [hml]; rfl) (argsL := [(.int (z1 - bb)), (.int mm)]) (rest := [(.int 0), (.ref b2), (.int bb), (.ref b1)]) (lenOf pd_10 rfl) rfl (by show 2 * 0 + _ ≤ _; exact Nat.le_of_eq rfl) (hb hby d27_24) (fun _ _ => ⟨rfl, e2, (by decide : 1 + 0 ≤ _), (by decide : 5 + 0 ≤ _)⟩)
  dsimp only [Pt.U, Pt.locs, Pt.cells, Pt.slots] at X5 l5 y5 z5 st5 hQ5
  subst l5 y5 z5
  obtain ⟨rfl, Nq5, eh5⟩ := hQ5
  have N5 := Fr.app N1 Nq5
  refine Goes.step (B := T5.setTop (mkF m 27 #[.val (.ref b1), .val (.int bb), .val (.int ee), .val (.int mm), .val (.ref b2)] [(.int (own_min (z1 - bb) mm)), (.int 0), (.ref b2), (.int bb), (.ref b1)])) st5 ?_
  rw [own_mnq (show mm.toInt ≤ (z1 - bb).toInt from by have q := own_dif (m := z1 - bb) rfl hb0 (by omega); omega)]
  obtain ⟨T6, h6, L6, X6, e6, Nc6, Kp6, Vc6, st6⟩ := cpA X5 hx hZ hown (own_w126 hw) (own_w129 hw) (own_w127 hw) (own_w128 hw) eh5 f3 Vp_b2 (Or.inl ⟨rfl, rfl⟩) (own_nlt (by rw [own_i0]; exact hb0)) (by decide) hm0 (by omega) (by rw [show (0 : Int32).toNatClampNeg = 0 from by decide]; omega) rfl (by rw [show (0 : Int32).toNatClampNeg = 0 from by decide]; simp) N5 g_b2 (g := (mkF m 27 #[.val (.ref b1), .val (.int bb), .val (.int ee), .val (.int mm), .val (.ref b2)] [(.int mm), (.int 0), (.ref b2), (.int bb), (.ref b1)])) rfl (by rw [hml]; rfl) (rest := []) rfl (hb hby d27_27) (by decide) (W := 0) (by show 2 * 0 + _ ≤ _; exact Nat.le_of_eq rfl) (by decide)
  have O_6 := O_2.keep Kp6 (allS g_b2 all0)
  have K_6 := K_2.trans Kp6 (allS (P := fun x => x ∈ _ ∨ _) (Or.inr sz_b2) all0)
  refine Goes.step (B := T6.setTop (mkF m 30 #[.val (.ref b1), .val (.int bb), .val (.int ee), .val (.int mm), .val (.ref b2)] [])) st6 ?_
  have Vz_b2 : Arv Z h6 b2 k2 .byte mm ((own_sub xs bb mm).map Value.int) (.int 0) := by have q := Vc6; rw [own_cp] at q; exact q
  refine Goes.step (fun _ k => pw_aload X6.here hx (hb hby d27_30) rfl rfl _ k) ?_
  exact Goes.retA X6 hx e6 Bd.returns rfl rfl hlk (hb hby d27_32) (by decide) (by decide) (⟨b2, k2, mm, rfl, Nc6, K_6, g_b2, sz_b2, hmm, Vz_b2⟩)
theorem d26_0 : decode jdk_65_method_132_code 0 = .ok (.iload_n 1, 1) := by decide +kernel
theorem d26_1 : decode jdk_65_method_132_code 1 = .ok (.ifCond .ne 9, 3) := by decide +kernel
theorem d26_4 : decode jdk_65_method_132_code 4 = .ok (.iload_n 2, 1) := by decide +kernel
theorem d26_5 : decode jdk_65_method_132_code 5 = .ok (.aload_n 0, 1) := by decide +kernel
theorem d26_6 : decode jdk_65_method_132_code 6 = .ok (.arraylength, 1) := by decide +kernel
theorem d26_7 : decode jdk_65_method_132_code 7 = .ok (.if_icmp .eq 10, 3) := by decide +kernel
theorem d26_10 : decode jdk_65_method_132_code 10 = .ok (.aload_n 0, 1) := by decide +kernel
theorem d26_11 : decode jdk_65_method_132_code 11 = .ok (.iload_n 1, 1) := by decide +kernel
theorem d26_12 : decode jdk_65_method_132_code 12 = .ok (.iload_n 2, 1) := by decide +kernel
theorem d26_13 : decode jdk_65_method_132_code 13 = .ok (.invokestatic 339, 3) := by decide +kernel
theorem own_w119 {Z : State} {a0 : Array Value} (hw : ∀ d ∈ tables_1, d.before a0 Z = true) : (Jvm.Cond.methodLink "java/util/Arrays" (339 : Nat) ({ cls := "java/util/Arrays", name := "copyOfRangeByte", desc := "([BII)[B" } : Jvm.MethodName)).before a0 Z = true := hw _ (List.mem_of_getElem? (i := 119) rfl)
theorem own_w121 {Z : State} {a0 : Array Value} (hw : ∀ d ∈ tables_1, d.before a0 Z = true) : (Jvm.Cond.code ({ cls := "java/util/Arrays", name := "copyOfRangeByte", desc := "([BII)[B" } : Jvm.MethodName) jdk_65_method_133_code (5 : Nat) (Option.some (Jvm.ClassFile.FieldType.array Jvm.ClassFile.FieldType.byte))).before a0 Z = true := hw _ (List.mem_of_getElem? (i := 121) rfl)
theorem pd_11 : parseMethodDescriptor "([BII)[B" = some ⟨[(.array .byte), .int, .int], some (.array .byte)⟩ := by decide +kernel
theorem own_w120 {Z : State} {a0 : Array Value} (hw : ∀ d ∈ tables_1, d.before a0 Z = true) : (Jvm.Cond.static ({ cls := "java/util/Arrays", name := "copyOfRangeByte", desc := "([BII)[B" } : Jvm.MethodName)).before a0 Z = true := hw _ (List.mem_of_getElem? (i := 120) rfl)
theorem d26_16 : decode jdk_65_method_132_code 16 = .ok (.areturn, 1) := by decide +kernel
theorem ef_rmCR (m : MethodId) (x0 : Addr) (x1 : Int32) (x2 : Int32) : entryFrame m #[(.ref x0), (.int x1), (.int x2)] 3 = mkF m 0 #[.val (.ref x0), .val (.int x1), .val (.int x2)] [] := by first | (simp [entryFrame, mkF, argsToLocals, Value.category]; done) | rfl
def QCR (Z : State) (b1 : Addr) (k1 : ClassId) (z1 : Int32) (xs : List Int32) (bb : Int32) (ee : Int32) (h0 : Heap) (n0 : Nat) (v : Option Value) (h : Heap) (L : List Loc) : Prop := ∃ (x : Addr) (k : ClassId) (mm : Int32), v = some (.ref x) ∧ Fr n0 L ∧ Keep h0 h [] ∧ n0 ≤ x ∧ h0.size ≤ x ∧ mm = ee - bb ∧ Arv Z h x k .byte mm ((own_sub xs bb mm).map Value.int) (.int (0 : Int32))
set_option maxRecDepth 65536 in
set_option maxHeartbeats 40000000 in
theorem rmCR (l : Launch) (Z : State) (a0 : Array Value) (hw : ∀ d ∈ tables_1, d.before a0 Z = true) (ws : List Jvm.Cond) (b1 : Addr) (k1 : ClassId) (z1 : Int32) (xs : List Int32) (bb : Int32) (ee : Int32) (h0 : Heap) (n0 : Nat) (O0 : Old Z n0 h0) (V1 : Arv Z h0 b1 k1 .byte z1 (xs.map Value.int) (.int (0 : Int32))) (hb0 : 0 ≤ bb.toInt) (hbe : bb.toInt ≤ ee.toInt) (hez : ee.toInt ≤ z1.toInt) (hz5 : z1.toInt ≤ 5) (hne : ¬ (bb = (0 : Int32) ∧ ee = z1)) :
    MetFree l (⟨"java/util/Arrays", "copyOfRange", "([BII)[B"⟩ : MethodName) (head1 (Jvm.Cond.code (⟨"java/util/Arrays", "copyOfRange", "([BII)[B"⟩ : MethodName) jdk_65_method_132_code 3 (some (.array .byte)) :: ws) ({ frames := 2, cells := 1, slots := 5, locals := 34 } : Room)) (fun a U => a = #[(.ref b1), (.int bb), (.int ee)] ∧ Z.Warmed39 U.vm ∧ U.heap = h0) (fun _ _ _ _ _ => True) (fun _ U o U' => ∃ v L, o = .returned v ∧ QCR Z b1 k1 z1 xs bb ee h0 n0 v U'.heap L ∧ FrameEnd U o U' L ({ frames := 2, cells := 1, slots := 5, locals := 34 } : Room).cells ({ frames := 2, cells := 1, slots := 5, locals := 34 } : Room).slots) := by
  refine MetFree.of_bodySF (plainFor_of_name pn_Arrays) hisR ?_
  intro p e s m args below meth c s₁ Bd hml0 hP hK
  obtain ⟨rfl, hZ, hh⟩ := hP
  have hx := Bd.exec
  have hby := Bd.bytes
  have hlk : meth.locks = false := BodyLoose.notSynchronized Bd
  have hml : c.maxLocals = 3 := hml0
  have hown : s.vm.findClass "java/util/Arrays" = some m.cls := findClass_of_methodNamed Bd.named
  have hnm := (name_of_methodNamed Bd.named Bd.method).1
  have X0 : Stand p l e ({ frames := 2, cells := 1, slots := 5, locals := 34 } : Room) s m #[(.ref b1), (.int bb), (.int ee)] below meth c s₁ [] 0 0 := Stand.of_body Bd
  have e0 : s₁.heap = h0 := by rw [← hh, Bd.state]; rfl
  have N0 := Fr.nil n0
  show Goes p e below s (QCR Z b1 k1 z1 xs bb ee h0 n0) ({ frames := 2, cells := 1, slots := 5, locals := 34 } : Room).cells ({ frames := 2, cells := 1, slots := 5, locals := 34 } : Room).slots (s₁.setTop (entryFrame m #[(.ref b1), (.int bb), (.int ee)] 3))
  refine Goes.enter (g' := (mkF m 0 #[.val (.ref b1), .val (.int bb), .val (.int ee)] [])) (ef_rmCR m b1 bb ee) ?_
  refine Goes.step (fun _ k => pw_iloadN X0.here hx (hb hby d26_0) rfl _ k) ?_
  by_cases hc1_0 : bb = (0 : Int32)
  · refine Goes.step (fun _ k => pw_ifNo X0.here hx (hb hby d26_1) ((if0 _ _).trans (teq hc1_0).2) _ (pw_iloadN X0.here hx (hb hby d26_4) rfl _ (pw_aloadN X0.here hx (hb hby d26_5) rfl rfl _ k))) ?_
    obtain ⟨c2, Ar2, -, Sz2, Nn2, -, -⟩ := id V1
    have len2 := X0.arraylength hx (by rw [e0]; exact Ar2.1) (State.isArrayOf_alike hZ.alike Ar2.2.1) (g := (mkF m 6 #[.val (.ref b1), .val (.int bb), .val (.int ee)] [(.ref b1), (.int ee)])) rfl rfl (hb hby d26_6)
    rw [len_of Sz2 Nn2] at len2
    refine Goes.step (B := s₁.setTop (mkF m 7 #[.val (.ref b1), .val (.int bb), .val (.int ee)] [(.int z1), (.int ee)])) len2 ?_
    refine Goes.step (fun _ k => pw_icmpNo X0.here hx (hb hby d26_7) (feq (fun q => hne ⟨hc1_0, q⟩)).1 _ (pw_aloadN X0.here hx (hb hby d26_10) rfl rfl _ (pw_iloadN X0.here hx (hb hby d26_11) rfl _ (pw_iloadN X0.here hx (hb hby d26_12) rfl _ k)))) ?_
    have lt_b1_3 := V1.lt
    obtain ⟨_, _, ⟨T3, L3, k3, n3⟩, -, X3, ⟨Lc3, hQ3, l3, y3, z3⟩, st3⟩ := Jvm.LawKit.callS X0 hx (y := (⟨"java/util/Arrays", "copyOfRangeByte", "([BII)[B"⟩ : MethodName)) hown (mvT hZ (own_w119 hw)) (mvT hZ (own_w120 hw)) (mvT hZ (own_w117 hw)) (mvT hZ (own_w121 hw)) (by decide) (backOf (W := 0) (rmCRB l Z a0 hw [] b1 k1 z1 xs bb ee h0 n0 O0 V1 hb0 hbe hez hz5) hZ (own_w121 hw) (own_w117 hw) (by decide) (by decide)) (g := (mkF m 13 #[.val (.ref b1), .val (.int bb), .val (.int ee)] [(.int ee), (.int bb), (.ref b1)])) rfl (by rw [hml]; rfl) (argsL := [(.ref b1), (.int bb), (.int ee)]) (rest := []) (lenOf pd_11 rfl) rfl (by show 2 * 0 + _ ≤ _; exact Nat.le_of_eq rfl) (hb hby d26_13) (fun _ _ => ⟨rfl, e0, (by decide : 0 + 1 ≤ _), (by decide : 0 + 5 ≤ _)⟩)
    dsimp only [Pt.U, Pt.locs, Pt.cells, Pt.slots] at X3 l3 y3 z3 st3 hQ3
    subst l3 y3 z3
    obtain ⟨fb3, fk3, mq3, rfl, Nq3, Kp3, gb3, sz_fb3, hq3, Vb3⟩ := hQ3
    have ne_b1_fb3 : b1 ≠ fb3 := Nat.ne_of_lt (Nat.lt_of_lt_of_le lt_b1_3 sz_fb3)
    have O_3 := O0.keep Kp3 all0
    have K_3 := (Keep.refl h0 []).trans Kp3 all0
    have N3 := Fr.app N0 Nq3
    refine Goes.step (B := T3.setTop (mkF m 16 #[.val (.ref b1), .val (.int bb), .val (.int ee)] [(.ref fb3)])) st3 ?_
    exact Goes.retA X3 hx rfl Bd.returns rfl rfl hlk (hb hby d26_16) (by decide) (by decide) (⟨fb3, fk3, mq3, rfl, N3, K_3, gb3, sz_fb3, hq3, Vb3⟩)
  · refine Goes.step (fun _ k => pw_ifYes X0.here hx (pc' := 10) (hb hby d26_1) ((if0 _ _).trans (feq hc1_0).2) (by decide) (by decide) _ (pw_aloadN X0.here hx (hb hby d26_10) rfl rfl _ (pw_iloadN X0.here hx (hb hby d26_11) rfl _ (pw_iloadN X0.here hx (hb hby d26_12) rfl _ k)))) ?_
    have lt_b1_4 := V1.lt
    obtain ⟨_, _, ⟨T4, L4, k4, n4⟩, -, X4, ⟨Lc4, hQ4, l4, y4, z4⟩, st4⟩ := Jvm.LawKit.callS X0 hx (y := (⟨"java/util/Arrays", "copyOfRangeByte", "([BII)[B"⟩ : MethodName)) hown (mvT hZ (own_w119 hw)) (mvT hZ (own_w120 hw)) (mvT hZ (own_w117 hw)) (mvT hZ (own_w121 hw)) (by decide) (backOf (W := 0) (rmCRB l Z a0 hw [] b1 k1 z1 xs bb ee h0 n0 O0 V1 hb0 hbe hez hz5) hZ (own_w121 hw) (own_w117 hw) (by decide) (by decide)) (g := (mkF m 13 #[.val (.ref b1), .val (.int bb), .val (.int ee)] [(.int ee), (.int bb), (.ref b1)])) rfl (by rw [hml]; rfl) (argsL := [(.ref b1), (.int bb), (.int ee)]) (rest := []) (lenOf pd_11 rfl) rfl (by show 2 * 0 + _ ≤ _; exact Nat.le_of_eq rfl) (hb hby d26_13) (fun _ _ => ⟨rfl, e0, (by decide : 0 + 1 ≤ _), (by decide : 0 + 5 ≤ _)⟩)
    dsimp only [Pt.U, Pt.locs, Pt.cells, Pt.slots] at X4 l4 y4 z4 st4 hQ4
    subst l4 y4 z4
    obtain ⟨fb4, fk4, mq4, rfl, Nq4, Kp4, gb4, sz_fb4, hq4, Vb4⟩ := hQ4
    have ne_b1_fb4 : b1 ≠ fb4 := Nat.ne_of_lt (Nat.lt_of_lt_of_le lt_b1_4 sz_fb4)
    have O_4 := O0.keep Kp4 all0
    have K_4 := (Keep.refl h0 []).trans Kp4 all0
    have N4 := Fr.app N0 Nq4
    refine Goes.step (B := T4.setTop (mkF m 16 #[.val (.ref b1), .val (.int bb), .val (.int ee)] [(.ref fb4)])) st4 ?_
    exact Goes.retA X4 hx rfl Bd.returns rfl rfl hlk (hb hby d26_16) (by decide) (by decide) (⟨fb4, fk4, mq4, rfl, N4, K_4, gb4, sz_fb4, hq4, Vb4⟩)
theorem d29_0 : decode jdk_42_method_151_code 0 = .ok (.aload_n 0, 1) := by decide +kernel
theorem d29_1 : decode jdk_42_method_151_code 1 = .ok (.invokespecial 1, 3) := by decide +kernel
theorem d29_4 : decode jdk_42_method_151_code 4 = .ok (.aload_n 0, 1) := by decide +kernel
theorem d29_5 : decode jdk_42_method_151_code 5 = .ok (.aload_n 1, 1) := by decide +kernel
theorem d29_6 : decode jdk_42_method_151_code 6 = .ok (.putfield 9, 3) := by decide +kernel
theorem d29_9 : decode jdk_42_method_151_code 9 = .ok (.aload_n 0, 1) := by decide +kernel
theorem d29_10 : decode jdk_42_method_151_code 10 = .ok (.iload_n 2, 1) := by decide +kernel
theorem d29_11 : decode jdk_42_method_151_code 11 = .ok (.putfield 15, 3) := by decide +kernel
theorem d29_14 : decode jdk_42_method_151_code 14 = .ok (.return_, 1) := by decide +kernel
theorem ef_rmSB (m : MethodId) (x0 : Addr) (x1 : Addr) (x2 : Int32) : entryFrame m #[(.ref x0), (.ref x1), (.int x2)] 3 = mkF m 0 #[.val (.ref x0), .val (.ref x1), .val (.int x2)] [] := by first | (simp [entryFrame, mkF, argsToLocals, Value.category]; done) | rfl
def QSB (Z : State) (a0r : Addr) (p1 : Addr) (h0 : Heap) (n0 : Nat) (v : Option Value) (h : Heap) (L : List Loc) : Prop := v = none ∧ Fr n0 L ∧ Keep h0 h [a0r] ∧ Exa Z h a0r "java/lang/String" ∧ Fld Z h a0r "java/lang/String" "value" "[B" (.ref p1) ∧ Fld Z h a0r "java/lang/String" "coder" "B" (.int 0)
set_option maxRecDepth 65536 in
set_option maxHeartbeats 40000000 in
theorem rmSB (l : Launch) (Z : State) (a0 : Array Value) (hw : ∀ d ∈ tables_1, d.before a0 Z = true) (ws : List Jvm.Cond) (a0r : Addr) (p1 : Addr) (h0 : Heap) (n0 : Nat) (O0 : Old Z n0 h0) (Er : Exa Z h0 a0r "java/lang/String") (gr : n0 ≤ a0r) (Fr_value : Fld Z h0 a0r "java/lang/String" "value" "[B" .null) (Fr_coder : Fld Z h0 a0r "java/lang/String" "coder" "B" (.int 0)) :
    MetFree l (⟨"java/lang/String", "<init>", "([BB)V"⟩ : MethodName) (head1 (Jvm.Cond.code (⟨"java/lang/String", "<init>", "([BB)V"⟩ : MethodName) jdk_42_method_151_code 3 none :: ws) ({ frames := 1, cells := 0, slots := 0, locals := 12 } : Room)) (fun a U => a = #[(.ref a0r), (.ref p1), (.int 0)] ∧ Z.Warmed39 U.vm ∧ U.heap = h0) (fun _ _ _ _ _ => True) (fun _ U o U' => ∃ v L, o = .returned v ∧ QSB Z a0r p1 h0 n0 v U'.heap L ∧ FrameEnd U o U' L ({ frames := 1, cells := 0, slots := 0, locals := 12 } : Room).cells ({ frames := 1, cells := 0, slots := 0, locals := 12 } : Room).slots) := by
  refine MetFree.of_bodySF (plainFor_of_name pn_String) hisR ?_
  intro p e s m args below meth c s₁ Bd hml0 hP hK
  obtain ⟨rfl, hZ, hh⟩ := hP
  have hx := Bd.exec
  have hby := Bd.bytes
  have hlk : meth.locks = false := BodyLoose.notSynchronized Bd
  have hml : c.maxLocals = 3 := hml0
  have hown : s.vm.findClass "java/lang/String" = some m.cls := findClass_of_methodNamed Bd.named
  have hnm := (name_of_methodNamed Bd.named Bd.method).1
  have X0 : Stand p l e ({ frames := 1, cells := 0, slots := 0, locals := 12 } : Room) s m #[(.ref a0r), (.ref p1), (.int 0)] below meth c s₁ [] 0 0 := Stand.of_body Bd
  have e0 : s₁.heap = h0 := by rw [← hh, Bd.state]; rfl
  have N0 := Fr.nil n0
  show Goes p e below s (QSB Z a0r p1 h0 n0) ({ frames := 1, cells := 0, slots := 0, locals := 12 } : Room).cells ({ frames := 1, cells := 0, slots := 0, locals := 12 } : Room).slots (s₁.setTop (entryFrame m #[(.ref a0r), (.ref p1), (.int 0)] 3))
  refine Goes.enter (g' := (mkF m 0 #[.val (.ref a0r), .val (.ref p1), .val (.int 0)] [])) (ef_rmSB m a0r p1 ((0 : Int32))) ?_
  refine Goes.step (fun _ k => pw_aloadN X0.here hx (hb hby d29_0) rfl rfl _ k) ?_
  obtain ⟨T1, X1, e1, st1⟩ := initO X0 hx hZ hown (own_w16 hw) (own_w17 hw) (own_w18 hw) e0 (g := (mkF m 1 #[.val (.ref a0r), .val (.ref p1), .val (.int 0)] [(.ref a0r)])) rfl (by rw [hml]; rfl) rfl (hb hby d29_1) (by decide) (W := 0) (by show 2 * 0 + _ ≤ _; exact Nat.le_of_eq rfl) (by decide)
  refine Goes.step (B := T1.setTop (mkF m 4 #[.val (.ref a0r), .val (.ref p1), .val (.int 0)] [])) st1 ?_
  refine Goes.step (fun _ k => pw_aloadN X1.here hx (hb hby d29_4) rfl rfl _ (pw_aloadN X1.here hx (hb hby d29_5) rfl rfl _ k)) ?_
  obtain ⟨T2, h2, X2, e2, W2, st2⟩ := putF X1 hx hZ hown (host := "") (Or.inl (own_w25 hw)) Via.refl e1 Fr_value Er (Or.inr ⟨(own_w21 hw), rfl, hnm⟩) (own_w7 hw) (ty := (.array .byte)) (by decide) rfl rfl (g := (mkF m 6 #[.val (.ref a0r), .val (.ref p1), .val (.int 0)] [(.ref p1), (.ref a0r)])) rfl rfl (hb hby d29_6)
  have Fw2 := Fr_value.same W2
  have N2 := Fr.snoc X2 N0 gr
  have O_2 := O0.wr W2 gr
  have K_2 := (Keep.refl h0 [a0r]).wr W2 (Or.inl (List.mem_of_getElem? (i := 0) rfl))
  refine Goes.step (B := T2.setTop (mkF m 9 #[.val (.ref a0r), .val (.ref p1), .val (.int 0)] [])) st2 ?_
  refine Goes.step (fun _ k => pw_aloadN X2.here hx (hb hby d29_9) rfl rfl _ (pw_iloadN X2.here hx (hb hby d29_10) rfl _ k)) ?_
  have f3 := (Er.wr W2)
  have f4 := (Fr_coder.other W2 (Or.inr (slot_ne (Or.inr (own_w22 hw)) (Or.inr (own_w21 hw)) (by decide) (t := .byte) (t' := (.array .byte)) (by decide) (by decide))))
  obtain ⟨T5, h5, X5, e5, W5, st5⟩ := putFN X2 hx hZ hown (own_w26 hw) Via.refl e2 f4 f3 (Or.inr ⟨(own_w22 hw), rfl, hnm⟩) (own_w7 hw) (ty := .byte) (v' := (.int 0)) (by decide) rfl (by decide) (g := (mkF m 11 #[.val (.ref a0r), .val (.ref p1), .val (.int 0)] [(.int 0), (.ref a0r)])) rfl rfl (hb hby d29_11)
  have Fw5 := f4.same W5
  have N5 := Fr.snoc X5 N2 gr
  have O_5 := O_2.wr W5 gr
  have K_5 := K_2.wr W5 (Or.inl (List.mem_of_getElem? (i := 0) rfl))
  refine Goes.step (B := T5.setTop (mkF m 14 #[.val (.ref a0r), .val (.ref p1), .val (.int 0)] [])) st5 ?_
  have f6 := (f3.wr W5)
  have f7 := (Fw2.other W5 (Or.inr (slot_ne (Or.inr (own_w21 hw)) (Or.inr (own_w22 hw)) (by decide) (t := (.array .byte)) (t' := .byte) (by decide) (by decide))))
  exact Goes.retV X5 hx e5 Bd.returns hlk (hb hby d29_14) (by decide) (by decide) (⟨rfl, N5, K_5, f6, f7, Fw5⟩)
theorem d25_0 : decode jdk_43_method_47_code 0 = .ok (.iload_n 2, 1) := by decide +kernel
theorem d25_1 : decode jdk_43_method_47_code 1 = .ok (.ifCond .ne 6, 3) := by decide +kernel
theorem d25_4 : decode jdk_43_method_47_code 4 = .ok (.ldc 151, 2) := by decide +kernel
theorem own_w112 {Z : State} {a0 : Array Value} (hw : ∀ d ∈ tables_1, d.before a0 Z = true) : (Jvm.Cond.stringLink "java/lang/StringLatin1" (151 : Nat) "").before a0 Z = true := hw _ (List.mem_of_getElem? (i := 112) rfl)
theorem d25_6 : decode jdk_43_method_47_code 6 = .ok (.areturn, 1) := by decide +kernel
theorem d25_7 : decode jdk_43_method_47_code 7 = .ok (.new 1, 3) := by decide +kernel
theorem own_w114 {Z : State} {a0 : Array Value} (hw : ∀ d ∈ tables_1, d.before a0 Z = true) : (Jvm.Cond.classLink "java/lang/StringLatin1" (1 : Nat) "java/lang/String").before a0 Z = true := hw _ (List.mem_of_getElem? (i := 114) rfl)
theorem d25_10 : decode jdk_43_method_47_code 10 = .ok (.dup, 1) := by decide +kernel
theorem d25_11 : decode jdk_43_method_47_code 11 = .ok (.aload_n 0, 1) := by decide +kernel
theorem d25_12 : decode jdk_43_method_47_code 12 = .ok (.iload_n 1, 1) := by decide +kernel
theorem d25_13 : decode jdk_43_method_47_code 13 = .ok (.iload_n 1, 1) := by decide +kernel
theorem d25_14 : decode jdk_43_method_47_code 14 = .ok (.iload_n 2, 1) := by decide +kernel
theorem d25_15 : decode jdk_43_method_47_code 15 = .ok (.iadd, 1) := by decide +kernel
theorem d25_16 : decode jdk_43_method_47_code 16 = .ok (.invokestatic 232, 3) := by decide +kernel
theorem own_w115 {Z : State} {a0 : Array Value} (hw : ∀ d ∈ tables_1, d.before a0 Z = true) : (Jvm.Cond.methodLink "java/lang/StringLatin1" (232 : Nat) ({ cls := "java/util/Arrays", name := "copyOfRange", desc := "([BII)[B" } : Jvm.MethodName)).before a0 Z = true := hw _ (List.mem_of_getElem? (i := 115) rfl)
theorem own_w118 {Z : State} {a0 : Array Value} (hw : ∀ d ∈ tables_1, d.before a0 Z = true) : (Jvm.Cond.code ({ cls := "java/util/Arrays", name := "copyOfRange", desc := "([BII)[B" } : Jvm.MethodName) jdk_65_method_132_code (3 : Nat) (Option.some (Jvm.ClassFile.FieldType.array Jvm.ClassFile.FieldType.byte))).before a0 Z = true := hw _ (List.mem_of_getElem? (i := 118) rfl)
theorem own_w116 {Z : State} {a0 : Array Value} (hw : ∀ d ∈ tables_1, d.before a0 Z = true) : (Jvm.Cond.static ({ cls := "java/util/Arrays", name := "copyOfRange", desc := "([BII)[B" } : Jvm.MethodName)).before a0 Z = true := hw _ (List.mem_of_getElem? (i := 116) rfl)
theorem d25_19 : decode jdk_43_method_47_code 19 = .ok (.iconst 0, 1) := by decide +kernel
theorem d25_20 : decode jdk_43_method_47_code 20 = .ok (.invokespecial 112, 3) := by decide +kernel
theorem own_w130 {Z : State} {a0 : Array Value} (hw : ∀ d ∈ tables_1, d.before a0 Z = true) : (Jvm.Cond.methodLink "java/lang/StringLatin1" (112 : Nat) ({ cls := "java/lang/String", name := "<init>", desc := "([BB)V" } : Jvm.MethodName)).before a0 Z = true := hw _ (List.mem_of_getElem? (i := 130) rfl)
theorem own_w132 {Z : State} {a0 : Array Value} (hw : ∀ d ∈ tables_1, d.before a0 Z = true) : (Jvm.Cond.code ({ cls := "java/lang/String", name := "<init>", desc := "([BB)V" } : Jvm.MethodName) jdk_42_method_151_code (3 : Nat) (Option.none : Option Jvm.ClassFile.FieldType)).before a0 Z = true := hw _ (List.mem_of_getElem? (i := 132) rfl)
theorem pd_12 : parseMethodDescriptor "([BB)V" = some ⟨[(.array .byte), .byte], none⟩ := by decide +kernel
theorem own_w131 {Z : State} {a0 : Array Value} (hw : ∀ d ∈ tables_1, d.before a0 Z = true) : (Jvm.Cond.instanceMethod ({ cls := "java/lang/String", name := "<init>", desc := "([BB)V" } : Jvm.MethodName)).before a0 Z = true := hw _ (List.mem_of_getElem? (i := 131) rfl)
theorem d25_23 : decode jdk_43_method_47_code 23 = .ok (.areturn, 1) := by decide +kernel
theorem ef_rmNS (m : MethodId) (x0 : Addr) (x1 : Int32) (x2 : Int32) : entryFrame m #[(.ref x0), (.int x1), (.int x2)] 3 = mkF m 0 #[.val (.ref x0), .val (.int x1), .val (.int x2)] [] := by first | (simp [entryFrame, mkF, argsToLocals, Value.category]; done) | rfl
def QNS (Z : State) (b1 : Addr) (k1 : ClassId) (z1 : Int32) (xs : List Int32) (bb : Int32) (mm : Int32) (h0 : Heap) (n0 : Nat) (v : Option Value) (h : Heap) (L : List Loc) : Prop := ∃ (r vb : Addr) (kv : ClassId), v = some (.ref r) ∧ Fr n0 L ∧ Keep h0 h [] ∧ Exa Z h r "java/lang/String" ∧ Fld Z h r "java/lang/String" "value" "[B" (.ref vb) ∧ Fld Z h r "java/lang/String" "coder" "B" (.int (0 : Int32)) ∧ Arv Z h vb kv .byte mm ((own_sub xs bb mm).map Value.int) (.int (0 : Int32))
set_option maxRecDepth 65536 in
set_option maxHeartbeats 40000000 in
theorem rmNS (l : Launch) (Z : State) (a0 : Array Value) (hw : ∀ d ∈ tables_1, d.before a0 Z = true) (ws : List Jvm.Cond) (b1 : Addr) (k1 : ClassId) (z1 : Int32) (xs : List Int32) (bb : Int32) (mm : Int32) (h0 : Heap) (n0 : Nat) (O0 : Old Z n0 h0) (V1 : Arv Z h0 b1 k1 .byte z1 (xs.map Value.int) (.int (0 : Int32))) (hb0 : 0 ≤ bb.toInt) (hm0 : 0 ≤ mm.toInt) (hbm : bb.toInt + mm.toInt ≤ z1.toInt) (hz5 : z1.toInt ≤ 5) (hnn : ¬ (bb = (0 : Int32) ∧ mm = z1)) :
    MetFree l (⟨"java/lang/StringLatin1", "newString", "([BII)Ljava/lang/String;"⟩ : MethodName) (head1 (Jvm.Cond.code (⟨"java/lang/StringLatin1", "newString", "([BII)Ljava/lang/String;"⟩ : MethodName) jdk_43_method_47_code 3 (some (.object "java/lang/String")) :: ws) ({ frames := 3, cells := 2, slots := 9, locals := 50 } : Room)) (fun a U => a = #[(.ref b1), (.int bb), (.int mm)] ∧ Z.Warmed39 U.vm ∧ U.heap = h0 ∧ CHv Z own_EL U.vm h0) (fun _ _ _ _ _ => True) (fun _ U o U' => ∃ v L, o = .returned v ∧ QNS Z b1 k1 z1 xs bb mm h0 n0 v U'.heap L ∧ CHr Z own_EL U.vm U.heap U'.vm U'.heap ∧ ReturnedEndW U o U' L ({ frames := 3, cells := 2, slots := 9, locals := 50 } : Room).cells ({ frames := 3, cells := 2, slots := 9, locals := 50 } : Room).slots) := by
  refine MetFree.of_bodySF (plainFor_of_name pn_StringLatin1) hisR ?_
  intro p e s m args below meth c s₁ Bd hml0 hP hK
  obtain ⟨rfl, hZ, hh, hH0⟩ := hP
  have hx := Bd.exec
  have hby := Bd.bytes
  have hlk : meth.locks = false := BodyLoose.notSynchronized Bd
  have hml : c.maxLocals = 3 := hml0
  have hown : s.vm.findClass "java/lang/StringLatin1" = some m.cls := findClass_of_methodNamed Bd.named
  have hnm := (name_of_methodNamed Bd.named Bd.method).1
  have X0 : Stand p l e ({ frames := 3, cells := 2, slots := 9, locals := 50 } : Room) (s.setVm s.vm) m #[(.ref b1), (.int bb), (.int mm)] below meth c s₁ [] 0 0 := Stand.of_body Bd
  have e0 : s₁.heap = h0 := by rw [← hh, Bd.state]; rfl
  have N0 := Fr.nil n0
  have hS0 : s.Since s.vm h0.size := (State.WarmedH.refl s).since _
  show GoesH p e below s Z own_EL (QNS Z b1 k1 z1 xs bb mm h0 n0) ({ frames := 3, cells := 2, slots := 9, locals := 50 } : Room).cells ({ frames := 3, cells := 2, slots := 9, locals := 50 } : Room).slots (s₁.setTop (entryFrame m #[(.ref b1), (.int bb), (.int mm)] 3))
  refine GoesH.enter (g' := (mkF m 0 #[.val (.ref b1), .val (.int bb), .val (.int mm)] [])) (ef_rmNS m b1 bb mm) ?_
  refine GoesH.step (fun _ k => pw_iloadN X0.here hx (hb hby d25_0) rfl _ k) ?_
  by_cases hc1_0 : mm = (0 : Int32)
  · refine GoesH.step (fun _ k => pw_ifNo X0.here hx (hb hby d25_1) ((if0 _ _).trans (teq hc1_0).2) _ k) ?_
    obtain ⟨b2, T2, h2, k2, v2, c2, X2, e2, E2, hS2, hk2, hZ2, hown2, Ea2, Fc2, Fv2, Va2, la2, lb2, H2, I2, Sf2, st2⟩ := ldcCH X0 hx hZ hown (own_w112 hw) (own_wS hw) e0 hS0 (Nat.le_refl _) (own_EW hw) (List.mem_of_getElem? (i := 1) rfl) (CHr.refl hH0).1 (vs := []) (z := (0 : Int32)) ⟨by decide, by decide⟩ (by decide) (by decide) (g := (mkF m 4 #[.val (.ref b1), .val (.int bb), .val (.int mm)] [])) rfl (hb hby d25_4) (n := 0) (by decide) (by decide) (by decide) (by decide)
    have O_2 := O0.ext E2
    have CH2 := ((CHr.refl hH0).trans H2)
    have K_2 := (Keep.refl h0 []).ext E2
    refine GoesH.step (B := T2.setTop (mkF m 6 #[.val (.ref b1), .val (.int bb), .val (.int mm)] [(.ref b2)])) st2 ?_
    exact GoesH.retA X2 hS2 hk2 hZ2 (own_EW hw) (by rw [show s.heap = h0 from hh]; exact CH2) hx e2 Bd.returns rfl rfl hlk (hb hby d25_6) (by decide) (by decide) (⟨b2, v2, c2, rfl, N0, K_2, Ea2, Fv2, Fc2, (by rw [hc1_0, own_sub0]; exact Va2)⟩)
  · refine GoesH.step (fun _ k => pw_ifYes X0.here hx (pc' := 7) (hb hby d25_1) ((if0 _ _).trans (feq hc1_0).2) (by decide) (by decide) _ k) ?_
    obtain ⟨T3, h3, X3, e3, E3, A3, D3, -, st3⟩ := newO X0 hx hZ hown (own_w114 hw) (own_w7 hw) (own_w8 hw) e0 (g := (mkF m 7 #[.val (.ref b1), .val (.int bb), .val (.int mm)] [])) rfl (hb hby d25_7) (by decide) (by decide)
    obtain ⟨b3, g3⟩ : ∃ z, z = h0.size := ⟨_, rfl⟩
    rw [← g3] at A3 D3 st3
    have ne_b1_b3 : b1 ≠ b3 := Nat.ne_of_lt (Nat.lt_of_lt_of_le V1.lt (Nat.le_of_eq g3.symm))
    have g_b3 : n0 ≤ b3 := Nat.le_trans (own_z O0) (Nat.le_of_eq g3.symm)
    have Sf_b3 := Safe.ext E3 (CHr.refl hH0).1 (Safe.new (Nat.le_of_eq g3.symm))
    have CH4 := (CHr.refl hH0).trans (CHr.ext E3 (CHr.refl hH0).1)
    have O_3 := O0.ext E3
    have sz_b3 : h0.size ≤ b3 := Nat.le_trans (Keep.refl h0 []).1 (Nat.le_of_eq g3.symm)
    have K_3 := (Keep.refl h0 []).ext E3
    have F3_value : Fld Z h3 b3 "java/lang/String" "value" "[B" .null := D3 (Or.inr (own_w21 hw)) (ty := (.array .byte)) (by decide)
    have F3_coder : Fld Z h3 b3 "java/lang/String" "coder" "B" (.int 0) := D3 (Or.inr (own_w22 hw)) (ty := .byte) (by decide)
    refine GoesH.step (B := T3.setTop (mkF m 10 #[.val (.ref b1), .val (.int bb), .val (.int mm)] [(.ref b3)])) st3 ?_
    refine GoesH.step (fun _ k => pw_dup X3.here hx (hb hby d25_10) rfl _ (pw_aloadN X3.here hx (hb hby d25_11) rfl rfl _ (pw_iloadN X3.here hx (hb hby d25_12) rfl _ (pw_iloadN X3.here hx (hb hby d25_13) rfl _ (pw_iloadN X3.here hx (hb hby d25_14) rfl _ (pw_iadd X3.here hx (hb hby d25_15) _ k)))))) ?_
    obtain ⟨ee, hee⟩ : ∃ z, z = (bb + mm) := ⟨_, rfl⟩
    rw [← hee]
    have te := own_sm hee hb0 hm0 (by omega)
    have hne' : ¬ (bb = (0 : Int32) ∧ ee = z1) := fun q => hnn ⟨q.1, Int32.toInt_inj.mp (by have q1 := q.2; have q2 := q.1; subst q1; rw [q2, own_i0] at te; omega)⟩
    have f6 := (V1.ext E3)
    have lt_b1_5 := f6.lt
    have lt_b3_5 := A3.lt
    obtain ⟨_, _, ⟨T5, L5, k5, n5⟩, -, X5, ⟨Lc5, hQ5, l5, y5, z5⟩, st5⟩ := Jvm.LawKit.callS X3 hx (y := (⟨"java/util/Arrays", "copyOfRange", "([BII)[B"⟩ : MethodName)) hown (mvT hZ (own_w115 hw)) (mvT hZ (own_w116 hw)) (mvT hZ (own_w117 hw)) (mvT hZ (own_w118 hw)) (by decide) (backOf (W := 2) (rmCR l Z a0 hw [] b1 k1 z1 xs bb ee h3 n0 O_3 f6 hb0 (by omega) (by omega) hz5 hne') hZ (own_w118 hw) (own_w117 hw) (by decide) (by decide)) (g := (mkF m 16 #[.val (.ref b1), .val (.int bb), .val (.int mm)] [(.int ee), (.int bb), (.ref b1), (.ref b3), (.ref b3)])) rfl (by rw [hml]; rfl) (argsL := [(.ref b1), (.int bb), (.int ee)]) (rest := [(.ref b3), (.ref b3)]) (lenOf pd_11 rfl) rfl (by show 2 * 0 + _ ≤ _; exact Nat.le_of_eq rfl) (hb hby d25_16) (fun _ _ => ⟨rfl, e3, (by decide : 1 + 1 ≤ _), (by decide : 4 + 5 ≤ _)⟩)
    dsimp only [Pt.U, Pt.locs, Pt.cells, Pt.slots] at X5 l5 y5 z5 st5 hQ5
    subst l5 y5 z5
    obtain ⟨fb5, fk5, mq5, rfl, Nq5, Kp5, gb5, sz_fb5, hq5, Vb5⟩ := hQ5
    have ne_b1_fb5 : b1 ≠ fb5 := Nat.ne_of_lt (Nat.lt_of_lt_of_le lt_b1_5 sz_fb5)
    have ne_b3_fb5 : b3 ≠ fb5 := Nat.ne_of_lt (Nat.lt_of_lt_of_le lt_b3_5 sz_fb5)
    have Sf7 := Safe.keep Kp5 sf0 CH4.1 Sf_b3
    have CH8 := CH4.trans (CHr.keep Kp5 sf0 CH4.1)
    have O_5 := O_3.keep Kp5 all0
    have K_5 := K_3.trans Kp5 all0
    have N5 := Fr.app N0 Nq5
    refine GoesH.step (B := T5.setTop (mkF m 19 #[.val (.ref b1), .val (.int bb), .val (.int mm)] [(.ref fb5), (.ref b3), (.ref b3)])) st5 ?_
    refine GoesH.step (fun _ k => pw_iconst X5.here hx (v := (0 : Int32)) (hb hby d25_19) rfl _ k) ?_
    have f10 := (A3.keep Kp5)
    have f11 := (F3_value.keep Kp5 nin0)
    have f12 := (F3_coder.keep Kp5 nin0)
    obtain ⟨_, _, ⟨T9, L9, k9, n9⟩, -, X9, ⟨Lc9, hQ9, l9, y9, z9⟩, st9⟩ := X5.specialBack hx (y := (⟨"java/lang/String", "<init>", "([BB)V"⟩ : MethodName)) rfl hown (mvT hZ (own_w130 hw)) (mvT hZ (own_w131 hw)) (mvT hZ (own_w132 hw)) (by decide) (backOf (W := 1) (rmSB l Z a0 hw [] b3 fb5 T5.heap n0 O_5 f10 g_b3 f11 f12) hZ (own_w132 hw) (own_w8 hw) (by decide) (by decide)) (g := (mkF m 20 #[.val (.ref b1), .val (.int bb), .val (.int mm)] [(.int 0), (.ref fb5), (.ref b3), (.ref b3)])) rfl (by rw [hml]; rfl) (Steps.refl _) (a := b3) (argsL := [(.ref fb5), (.int 0)]) (rest := [(.ref b3)]) (lenOf pd_12 rfl) rfl (by show 2 * 0 + _ ≤ _; exact Nat.le_of_eq rfl) (hb hby d25_20) (fun _ _ => ⟨rfl, rfl, (by decide : 2 + 0 ≤ _), (by decide : 9 + 0 ≤ _)⟩)
    dsimp only [Pt.U, Pt.locs, Pt.cells, Pt.slots] at X9 l9 y9 z9 st9 hQ9
    subst l9 y9 z9
    obtain ⟨rfl, Nq9, Kp9, Ex9, Fc9_value, Fc9_coder⟩ := hQ9
    have Sf13 := Safe.keep Kp9 (sfS Sf7 sf0) CH8.1 Sf7
    have CH14 := CH8.trans (CHr.keep Kp9 (sfS Sf7 sf0) CH8.1)
    have O_9 := O_5.keep Kp9 (allS g_b3 all0)
    have K_9 := K_5.trans Kp9 (allS (P := fun x => x ∈ _ ∨ _) (Or.inr sz_b3) all0)
    have N9 := Fr.app N5 Nq9
    refine GoesH.via (B := T9.setTop (mkF m 23 #[.val (.ref b1), .val (.int bb), .val (.int mm)] [(.ref b3)])) st9 ?_
    have f15 := (Vb5.keep Kp9 (ninS (Ne.symm ne_b3_fb5) nin0))
    exact GoesH.retA X9 hS0 (Nat.le_trans (Nat.le_trans (Nat.le_trans (Nat.le_refl _) E3.1) Kp5.1) Kp9.1) hZ (own_EW hw) (by rw [show s.heap = h0 from hh]; exact CH14) hx rfl Bd.returns rfl rfl hlk (hb hby d25_23) (by decide) (by decide) (⟨b3, fb5, fk5, rfl, N9, K_9, Ex9, Fc9_value, Fc9_coder, (by have q := f15; rw [own_sd hee hq5 hb0 hm0 (by omega)] at q; exact q)⟩)
theorem d22_0 : decode jdk_42_method_92_code 0 = .ok (.aload_n 0, 1) := by decide +kernel
theorem d22_1 : decode jdk_42_method_92_code 1 = .ok (.invokevirtual 505, 3) := by decide +kernel
theorem own_w47 {Z : State} {a0 : Array Value} (hw : ∀ d ∈ tables_1, d.before a0 Z = true) : (Jvm.Cond.methodLink "java/lang/String" (505 : Nat) ({ cls := "java/lang/String", name := "length", desc := "()I" } : Jvm.MethodName)).before a0 Z = true := hw _ (List.mem_of_getElem? (i := 47) rfl)
theorem own_w51 {Z : State} {a0 : Array Value} (hw : ∀ d ∈ tables_1, d.before a0 Z = true) : (Jvm.Cond.code ({ cls := "java/lang/String", name := "length", desc := "()I" } : Jvm.MethodName) jdk_42_method_54_code (1 : Nat) (Option.some Jvm.ClassFile.FieldType.int)).before a0 Z = true := hw _ (List.mem_of_getElem? (i := 51) rfl)
theorem pd_13 : parseMethodDescriptor "()I" = some ⟨[], some .int⟩ := by decide +kernel
theorem own_w50 {Z : State} {a0 : Array Value} (hw : ∀ d ∈ tables_1, d.before a0 Z = true) : (Jvm.Cond.selects "java/lang/String" ({ cls := "java/lang/String", name := "length", desc := "()I" } : Jvm.MethodName) ({ cls := "java/lang/String", name := "length", desc := "()I" } : Jvm.MethodName)).before a0 Z = true := hw _ (List.mem_of_getElem? (i := 50) rfl)
theorem own_w48 {Z : State} {a0 : Array Value} (hw : ∀ d ∈ tables_1, d.before a0 Z = true) : (Jvm.Cond.declares ({ cls := "java/lang/String", name := "length", desc := "()I" } : Jvm.MethodName)).before a0 Z = true := hw _ (List.mem_of_getElem? (i := 48) rfl)
theorem own_w49 {Z : State} {a0 : Array Value} (hw : ∀ d ∈ tables_1, d.before a0 Z = true) : (Jvm.Cond.instanceMethod ({ cls := "java/lang/String", name := "length", desc := "()I" } : Jvm.MethodName)).before a0 Z = true := hw _ (List.mem_of_getElem? (i := 49) rfl)
theorem d22_4 : decode jdk_42_method_92_code 4 = .ok (.istore_n 3, 1) := by decide +kernel
theorem d22_5 : decode jdk_42_method_92_code 5 = .ok (.iload_n 1, 1) := by decide +kernel
theorem d22_6 : decode jdk_42_method_92_code 6 = .ok (.iload_n 2, 1) := by decide +kernel
theorem d22_7 : decode jdk_42_method_92_code 7 = .ok (.iload_n 3, 1) := by decide +kernel
theorem d22_8 : decode jdk_42_method_92_code 8 = .ok (.invokestatic 521, 3) := by decide +kernel
theorem own_w101 {Z : State} {a0 : Array Value} (hw : ∀ d ∈ tables_1, d.before a0 Z = true) : (Jvm.Cond.methodLink "java/lang/String" (521 : Nat) ({ cls := "java/lang/String", name := "checkBoundsBeginEnd", desc := "(III)V" } : Jvm.MethodName)).before a0 Z = true := hw _ (List.mem_of_getElem? (i := 101) rfl)
theorem own_w103 {Z : State} {a0 : Array Value} (hw : ∀ d ∈ tables_1, d.before a0 Z = true) : (Jvm.Cond.code ({ cls := "java/lang/String", name := "checkBoundsBeginEnd", desc := "(III)V" } : Jvm.MethodName) jdk_42_method_158_code (3 : Nat) (Option.none : Option Jvm.ClassFile.FieldType)).before a0 Z = true := hw _ (List.mem_of_getElem? (i := 103) rfl)
theorem pd_14 : parseMethodDescriptor "(III)V" = some ⟨[.int, .int, .int], none⟩ := by decide +kernel
theorem own_w102 {Z : State} {a0 : Array Value} (hw : ∀ d ∈ tables_1, d.before a0 Z = true) : (Jvm.Cond.static ({ cls := "java/lang/String", name := "checkBoundsBeginEnd", desc := "(III)V" } : Jvm.MethodName)).before a0 Z = true := hw _ (List.mem_of_getElem? (i := 102) rfl)
theorem d22_11 : decode jdk_42_method_92_code 11 = .ok (.iload_n 1, 1) := by decide +kernel
theorem d22_12 : decode jdk_42_method_92_code 12 = .ok (.ifCond .ne 10, 3) := by decide +kernel
theorem d22_15 : decode jdk_42_method_92_code 15 = .ok (.iload_n 2, 1) := by decide +kernel
theorem d22_16 : decode jdk_42_method_92_code 16 = .ok (.iload_n 3, 1) := by decide +kernel
theorem d22_17 : decode jdk_42_method_92_code 17 = .ok (.if_icmp .ne 5, 3) := by decide +kernel
theorem d22_20 : decode jdk_42_method_92_code 20 = .ok (.aload_n 0, 1) := by decide +kernel
theorem d22_21 : decode jdk_42_method_92_code 21 = .ok (.areturn, 1) := by decide +kernel
theorem d22_22 : decode jdk_42_method_92_code 22 = .ok (.iload_n 2, 1) := by decide +kernel
theorem d22_23 : decode jdk_42_method_92_code 23 = .ok (.iload_n 1, 1) := by decide +kernel
theorem d22_24 : decode jdk_42_method_92_code 24 = .ok (.isub, 1) := by decide +kernel
theorem d22_25 : decode jdk_42_method_92_code 25 = .ok (.istore 4, 2) := by decide +kernel
theorem d22_27 : decode jdk_42_method_92_code 27 = .ok (.aload_n 0, 1) := by decide +kernel
theorem d22_28 : decode jdk_42_method_92_code 28 = .ok (.invokevirtual 492, 3) := by decide +kernel
theorem d22_31 : decode jdk_42_method_92_code 31 = .ok (.ifCond .eq 16, 3) := by decide +kernel
theorem d22_34 : decode jdk_42_method_92_code 34 = .ok (.aload_n 0, 1) := by decide +kernel
theorem d22_35 : decode jdk_42_method_92_code 35 = .ok (.getfield 9, 3) := by decide +kernel
theorem d22_38 : decode jdk_42_method_92_code 38 = .ok (.iload_n 1, 1) := by decide +kernel
theorem d22_39 : decode jdk_42_method_92_code 39 = .ok (.iload 4, 2) := by decide +kernel
theorem d22_41 : decode jdk_42_method_92_code 41 = .ok (.invokestatic 685, 3) := by decide +kernel
theorem own_w109 {Z : State} {a0 : Array Value} (hw : ∀ d ∈ tables_1, d.before a0 Z = true) : (Jvm.Cond.methodLink "java/lang/String" (685 : Nat) ({ cls := "java/lang/StringLatin1", name := "newString", desc := "([BII)Ljava/lang/String;" } : Jvm.MethodName)).before a0 Z = true := hw _ (List.mem_of_getElem? (i := 109) rfl)
theorem own_w111 {Z : State} {a0 : Array Value} (hw : ∀ d ∈ tables_1, d.before a0 Z = true) : (Jvm.Cond.code ({ cls := "java/lang/StringLatin1", name := "newString", desc := "([BII)Ljava/lang/String;" } : Jvm.MethodName) jdk_43_method_47_code (3 : Nat) (Option.some (Jvm.ClassFile.FieldType.object "java/lang/String"))).before a0 Z = true := hw _ (List.mem_of_getElem? (i := 111) rfl)
theorem pd_15 : parseMethodDescriptor "([BII)Ljava/lang/String;" = some ⟨[(.array .byte), .int, .int], some (.object "java/lang/String")⟩ := by decide +kernel
theorem own_w110 {Z : State} {a0 : Array Value} (hw : ∀ d ∈ tables_1, d.before a0 Z = true) : (Jvm.Cond.static ({ cls := "java/lang/StringLatin1", name := "newString", desc := "([BII)Ljava/lang/String;" } : Jvm.MethodName)).before a0 Z = true := hw _ (List.mem_of_getElem? (i := 110) rfl)
theorem d22_44 : decode jdk_42_method_92_code 44 = .ok (.goto 13, 3) := by decide +kernel
theorem d22_57 : decode jdk_42_method_92_code 57 = .ok (.areturn, 1) := by decide +kernel
theorem ef_rmS2 (m : MethodId) (x0 : Addr) (x1 : Int32) (x2 : Int32) : entryFrame m #[(.ref x0), (.int x1), (.int x2)] 5 = mkF m 0 #[.val (.ref x0), .val (.int x1), .val (.int x2), .unset, .unset] [] := by first | (simp [entryFrame, mkF, argsToLocals, Value.category]; done) | rfl
def QS2 (Z : State) (a1 : Addr) (b1 : Addr) (k1 : ClassId) (z1 : Int32) (xs : List Int32) (bb : Int32) (ee : Int32) (cs : Int32) (fm : Value) (h0 : Heap) (n0 : Nat) (v : Option Value) (h : Heap) (L : List Loc) : Prop := ∃ (r vb : Addr) (kv : ClassId) (mm : Int32), mm = ee - bb ∧ v = some (.ref r) ∧ Fr n0 L ∧ Keep h0 h [] ∧ Exa Z h r "java/lang/String" ∧ Fld Z h r "java/lang/String" "value" "[B" (.ref vb) ∧ Fld Z h r "java/lang/String" "coder" "B" (.int (0 : Int32)) ∧ Arv Z h vb kv .byte mm ((own_sub xs bb mm).map Value.int) (.int (0 : Int32))
set_option maxRecDepth 65536 in
set_option maxHeartbeats 40000000 in
theorem rmS2 (l : Launch) (Z : State) (a0 : Array Value) (hw : ∀ d ∈ tables_1, d.before a0 Z = true) (ws : List Jvm.Cond) (a1 : Addr) (b1 : Addr) (k1 : ClassId) (z1 : Int32) (xs : List Int32) (bb : Int32) (ee : Int32) (cs : Int32) (fm : Value) (h0 : Heap) (n0 : Nat) (O0 : Old Z n0 h0) (FS : OwnSt Z cs fm) (E1 : Exa Z h0 a1 "java/lang/String") (Fc1 : Fld Z h0 a1 "java/lang/String" "coder" "B" (.int (0 : Int32))) (Fv1 : Fld Z h0 a1 "java/lang/String" "value" "[B" (.ref b1)) (V1 : Arv Z h0 b1 k1 .byte z1 (xs.map Value.int) (.int (0 : Int32))) (hb0 : 0 ≤ bb.toInt) (hbe : bb.toInt ≤ ee.toInt) (hez : ee.toInt ≤ z1.toInt) (hz5 : z1.toInt ≤ 5) (hzl : z1.toNatClampNeg = xs.length) :
    MetFree l (⟨"java/lang/String", "substring", "(II)Ljava/lang/String;"⟩ : MethodName) (head1 (Jvm.Cond.code (⟨"java/lang/String", "substring", "(II)Ljava/lang/String;"⟩ : MethodName) jdk_42_method_92_code 5 (some (.object "java/lang/String")) :: ws) ({ frames := 4, cells := 2, slots := 9, locals := 64 } : Room)) (fun a U => a = #[(.ref a1), (.int bb), (.int ee)] ∧ Z.Warmed39 U.vm ∧ U.heap = h0 ∧ CHv Z own_EL U.vm h0) (fun _ _ _ _ _ => True) (fun _ U o U' => ∃ v L, o = .returned v ∧ QS2 Z a1 b1 k1 z1 xs bb ee cs fm h0 n0 v U'.heap L ∧ CHr Z own_EL U.vm U.heap U'.vm U'.heap ∧ ReturnedEndW U o U' L ({ frames := 4, cells := 2, slots := 9, locals := 64 } : Room).cells ({ frames := 4, cells := 2, slots := 9, locals := 64 } : Room).slots) := by
  refine MetFree.of_bodySF (plainFor_of_name pn_String) hisR ?_
  intro p e s m args below meth c s₁ Bd hml0 hP hK
  obtain ⟨rfl, hZ, hh, hH0⟩ := hP
  have hx := Bd.exec
  have hby := Bd.bytes
  have hlk : meth.locks = false := BodyLoose.notSynchronized Bd
  have hml : c.maxLocals = 5 := hml0
  have hown : s.vm.findClass "java/lang/String" = some m.cls := findClass_of_methodNamed Bd.named
  have hnm := (name_of_methodNamed Bd.named Bd.method).1
  have X0 : Stand p l e ({ frames := 4, cells := 2, slots := 9, locals := 64 } : Room) (s.setVm s.vm) m #[(.ref a1), (.int bb), (.int ee)] below meth c s₁ [] 0 0 := Stand.of_body Bd
  have e0 : s₁.heap = h0 := by rw [← hh, Bd.state]; rfl
  have N0 := Fr.nil n0
  have hS0 : s.Since s.vm h0.size := (State.WarmedH.refl s).since _
  show GoesH p e below s Z own_EL (QS2 Z a1 b1 k1 z1 xs bb ee cs fm h0 n0) ({ frames := 4, cells := 2, slots := 9, locals := 64 } : Room).cells ({ frames := 4, cells := 2, slots := 9, locals := 64 } : Room).slots (s₁.setTop (entryFrame m #[(.ref a1), (.int bb), (.int ee)] 5))
  refine GoesH.enter (g' := (mkF m 0 #[.val (.ref a1), .val (.int bb), .val (.int ee), .unset, .unset] [])) (ef_rmS2 m a1 bb ee) ?_
  have FS0 := FS
  obtain ⟨S_COMPACT_STRINGS, hcs, S_fm, hfm⟩ := FS0
  refine GoesH.step (fun _ k => pw_aloadN X0.here hx (hb hby d22_0) rfl rfl _ k) ?_
  have f2 := S_COMPACT_STRINGS.ext O0.2
  obtain ⟨cq1, kq1, qa1, qb1, qc1⟩ := isOf hZ e0 E1
  obtain ⟨_, _, ⟨T1, L1, k1, n1⟩, -, X1, ⟨Lc1, hQ1, l1, y1, z1⟩, st1⟩ := X0.virtualBack hx (y := (⟨"java/lang/String", "length", "()I"⟩ : MethodName)) (z := (⟨"java/lang/String", "length", "()I"⟩ : MethodName)) hown (mvT hZ (own_w47 hw)) (mvT hZ (own_w48 hw)) (notFace_of_selects (args := #[]) (mvT hZ (own_w50 hw))) (mvT hZ (own_w50 hw)) (mvT hZ (own_w49 hw)) (by decide) (backOf (W := 0) (rm9 l Z a0 hw [] a1 b1 k1 z1 xs cs h0 n0 O0 f2 hcs E1 Fc1 Fv1 V1) hZ (own_w51 hw) (own_w8 hw) (by decide) (by decide)) qa1 qc1 (g := (mkF m 1 #[.val (.ref a1), .val (.int bb), .val (.int ee), .unset, .unset] [(.ref a1)])) rfl (by rw [hml]; rfl) (Steps.refl _) (argsL := []) (rest := []) (lenOf pd_13 rfl) rfl (by show 2 * 0 + _ ≤ _; exact Nat.le_of_eq rfl) (hb hby d22_1) (fun _ _ => ⟨rfl, e0, (by decide : 0 + 0 ≤ _), (by decide : 0 + 0 ≤ _)⟩)
  dsimp only [Pt.U, Pt.locs, Pt.cells, Pt.slots] at X1 l1 y1 z1 st1 hQ1
  subst l1 y1 z1
  obtain ⟨rfl, Nq1, eh1⟩ := hQ1
  have N1 := Fr.app N0 Nq1
  refine GoesH.via (B := T1.setTop (mkF m 4 #[.val (.ref a1), .val (.int bb), .val (.int ee), .unset, .unset] [(.int z1)])) st1 ?_
  refine GoesH.step (fun _ k => pw_istoreN X1.here hx (l' := #[.val (.ref a1), .val (.int bb), .val (.int ee), .val (.int z1), .unset]) (hb hby d22_4) rfl _ (pw_iloadN X1.here hx (hb hby d22_5) rfl _ (pw_iloadN X1.here hx (hb hby d22_6) rfl _ (pw_iloadN X1.here hx (hb hby d22_7) rfl _ k)))) ?_
  obtain ⟨_, _, ⟨T3, L3, k3, n3⟩, -, X3, ⟨Lc3, hQ3, l3, y3, z3⟩, st3⟩ := Jvm.LawKit.callS X1 hx (y := (⟨"java/lang/String", "checkBoundsBeginEnd", "(III)V"⟩ : MethodName)) hown (mvT hZ (own_w101 hw)) (mvT hZ (own_w102 hw)) (mvT hZ (own_w8 hw)) (mvT hZ (own_w103 hw)) (by decide) (backOf (W := 0) (rm23 l Z a0 hw [] bb ee z1 cs fm h0 n0 O0 FS hb0 hbe hez) hZ (own_w103 hw) (own_w8 hw) (by decide) (by decide)) (g := (mkF m 8 #[.val (.ref a1), .val (.int bb), .val (.int ee), .val (.int z1), .unset] [(.int z1), (.int ee), (.int bb)])) rfl (by rw [hml]; rfl) (argsL := [(.int bb), (.int ee), (.int z1)]) (rest := []) (lenOf pd_14 rfl) rfl (by show 2 * 0 + _ ≤ _; exact Nat.le_of_eq rfl) (hb hby d22_8) (fun _ _ => ⟨rfl, eh1, (by decide : 0 + 0 ≤ _), (by decide : 0 + 0 ≤ _)⟩)
  dsimp only [Pt.U, Pt.locs, Pt.cells, Pt.slots] at X3 l3 y3 z3 st3 hQ3
  subst l3 y3 z3
  obtain ⟨rfl, Nq3, eh3⟩ := hQ3
  have N3 := Fr.app N1 Nq3
  refine GoesH.step (B := T3.setTop (mkF m 11 #[.val (.ref a1), .val (.int bb), .val (.int ee), .val (.int z1), .unset] [])) st3 ?_
  refine GoesH.step (fun _ k => pw_iloadN X3.here hx (hb hby d22_11) rfl _ k) ?_
  by_cases hc12_3 : bb = (0 : Int32)
  · refine GoesH.step (fun _ k => pw_ifNo X3.here hx (hb hby d22_12) ((if0 _ _).trans (teq hc12_3).2) _ (pw_iloadN X3.here hx (hb hby d22_15) rfl _ (pw_iloadN X3.here hx (hb hby d22_16) rfl _ k))) ?_
    by_cases hc17_4 : ee = z1
    · refine GoesH.step (fun _ k => pw_icmpNo X3.here hx (hb hby d22_17) (teq hc17_4).2 _ (pw_aloadN X3.here hx (hb hby d22_20) rfl rfl _ k)) ?_
      exact GoesH.retA X3 hS0 (Nat.le_refl _) hZ (own_EW hw) (by rw [show s.heap = h0 from hh]; exact (CHr.refl hH0)) hx eh3 Bd.returns rfl rfl hlk (hb hby d22_21) (by decide) (by decide) (⟨a1, b1, k1, z1, (by rw [hc12_3, hc17_4]; exact (Int32.toInt_inj.mp (by have q := own_dif (m := z1 - (0 : Int32)) (e := z1) rfl (by decide) (by rw [own_i0]; omega); rw [own_i0] at q; omega))), rfl, N3, (Keep.refl h0 []), E1, Fv1, Fc1, (by rw [hc12_3, own_suba _ _ hzl]; exact V1)⟩)
    · refine GoesH.step (fun _ k => pw_icmpYes X3.here hx (pc' := 22) (hb hby d22_17) (feq hc17_4).2 (by decide) (by decide) _ (pw_iloadN X3.here hx (hb hby d22_22) rfl _ (pw_iloadN X3.here hx (hb hby d22_23) rfl _ (pw_isub X3.here hx (hb hby d22_24) _ k)))) ?_
      obtain ⟨mm, hmm⟩ : ∃ z, z = (ee - bb) := ⟨_, rfl⟩
      rw [← hmm]
      have tm := own_dif hmm hb0 hbe
      have hnn : ¬ (bb = (0 : Int32) ∧ mm = z1) := (fun q => hc17_4 (by have q2 := q.2; subst q2; exact Int32.toInt_inj.mp (by have q1 := q.1; rw [q1, own_i0] at tm; omega)))
      refine GoesH.step (fun _ k => pw_istore X3.here hx (l' := #[.val (.ref a1), .val (.int bb), .val (.int ee), .val (.int z1), .val (.int mm)]) (hb hby d22_25) rfl _ (pw_aloadN X3.here hx (hb hby d22_27) rfl rfl _ k)) ?_
      obtain ⟨cq6, kq6, qa6, qb6, qc6⟩ := isOf hZ eh3 E1
      obtain ⟨_, _, ⟨T6, L6, k6, n6⟩, -, X6, ⟨Lc6, hQ6, l6, y6, z6⟩, st6⟩ := X3.virtualBack hx (y := (⟨"java/lang/String", "isLatin1", "()Z"⟩ : MethodName)) (z := (⟨"java/lang/String", "isLatin1", "()Z"⟩ : MethodName)) hown (mvT hZ (own_w41 hw)) (mvT hZ (own_w42 hw)) (notFace_of_selects (args := #[]) (mvT hZ (own_w44 hw))) (mvT hZ (own_w44 hw)) (mvT hZ (own_w43 hw)) (by decide) (backOf (W := 0) (rm8 l Z a0 hw [] a1 b1 k1 z1 xs cs h0 n0 O0 f2 hcs E1 Fc1 Fv1 V1) hZ (own_w45 hw) (own_w8 hw) (by decide) (by decide)) qa6 qc6 (g := (mkF m 28 #[.val (.ref a1), .val (.int bb), .val (.int ee), .val (.int z1), .val (.int mm)] [(.ref a1)])) rfl (by rw [hml]; rfl) (Steps.refl _) (argsL := []) (rest := []) (lenOf pd_7 rfl) rfl (by show 2 * 0 + _ ≤ _; exact Nat.le_of_eq rfl) (hb hby d22_28) (fun _ _ => ⟨rfl, eh3, (by decide : 0 + 0 ≤ _), (by decide : 0 + 0 ≤ _)⟩)
      dsimp only [Pt.U, Pt.locs, Pt.cells, Pt.slots] at X6 l6 y6 z6 st6 hQ6
      subst l6 y6 z6
      obtain ⟨rfl, Nq6, eh6⟩ := hQ6
      have N6 := Fr.app N3 Nq6
      refine GoesH.via (B := T6.setTop (mkF m 31 #[.val (.ref a1), .val (.int bb), .val (.int ee), .val (.int z1), .val (.int mm)] [(.int 1)])) st6 ?_
      refine GoesH.step (fun _ k => pw_ifNo X6.here hx (hb hby d22_31) ((if0 _ _).trans (feq (by decide)).1) _ (pw_aloadN X6.here hx (hb hby d22_34) rfl rfl _ k)) ?_
      obtain ⟨T7, X7, e7, st7⟩ := getF X6 hx hZ hown (host := "") (Or.inl (own_w25 hw)) Via.refl eh6 Fv1 (g := (mkF m 35 #[.val (.ref a1), .val (.int bb), .val (.int ee), .val (.int z1), .val (.int mm)] [(.ref a1)])) rfl rfl (hb hby d22_35)
      refine GoesH.step (B := T7.setTop (mkF m 38 #[.val (.ref a1), .val (.int bb), .val (.int ee), .val (.int z1), .val (.int mm)] [(.ref b1)])) st7 ?_
      refine GoesH.step (fun _ k => pw_iloadN X7.here hx (hb hby d22_38) rfl _ (pw_iload X7.here hx (hb hby d22_39) rfl _ k)) ?_
      obtain ⟨_, vw8, ⟨T8, L8, k8, n8⟩, -, Xr8, S28, sz8, ⟨Lc8, hQ8, l8, y8, z8, Hc8⟩, st8⟩ := callSS X7 hx (y := (⟨"java/lang/StringLatin1", "newString", "([BII)Ljava/lang/String;"⟩ : MethodName)) hown (mvT hZ (own_w109 hw)) (mvT hZ (own_w110 hw)) (mvT hZ (own_w59 hw)) (mvT hZ (own_w111 hw)) (by decide) (backOfSH (W := 0) (rmNS l Z a0 hw [] b1 k1 z1 xs bb mm h0 n0 O0 V1 hb0 (by omega) (by omega) hz5 hnn) hZ (own_w111 hw) (own_w59 hw) (by decide) (by decide) (own_EW hw) (CHr.refl hH0).1) (g := (mkF m 41 #[.val (.ref a1), .val (.int bb), .val (.int ee), .val (.int z1), .val (.int mm)] [(.int mm), (.int bb), (.ref b1)])) rfl (by rw [hml]; rfl) (argsL := [(.ref b1), (.int bb), (.int mm)]) (rest := []) (lenOf pd_15 rfl) rfl (by show 2 * 0 + _ ≤ _; exact Nat.le_of_eq rfl) (hb hby d22_41) (fun _ _ => ⟨rfl, e7, (by decide : 0 + 2 ≤ _), (by decide : 0 + 9 ≤ _)⟩)
      dsimp only [Pt.U, Pt.locs, Pt.cells, Pt.slots] at Xr8 S28 sz8 l8 y8 z8 st8 hQ8 Hc8
      subst l8 y8 z8
      obtain ⟨X8, hS8, hZ8, hown8⟩ := rebS hS0 (by rw [e7]; exact (Nat.le_refl _)) Xr8 S28 sz8 hZ hown
      have CHc8 := (CHr.refl hH0).trans Hc8
      obtain ⟨nr8, nv8, nk8, rfl, Nq8, Kp8, Er8, Fv8, Fc8, Vr8⟩ := hQ8
      have O_8 := O0.keep Kp8 all0
      have K_8 := (Keep.refl h0 []).trans Kp8 all0
      have N8 := Fr.app N6 Nq8
      refine GoesH.via (B := T8.setTop (mkF m 44 #[.val (.ref a1), .val (.int bb), .val (.int ee), .val (.int z1), .val (.int mm)] [(.ref nr8)])) st8 ?_
      refine GoesH.step (fun _ k => pw_goto X8.here hx (pc' := 57) (hb hby d22_44) (by decide) (by decide) _ k) ?_
      exact GoesH.retA X8 hS8 (Nat.le_refl _) hZ8 (own_EW hw) (by rw [show s.heap = h0 from hh]; exact CHc8) hx rfl Bd.returns rfl rfl hlk (hb hby d22_57) (by decide) (by decide) (⟨nr8, nv8, nk8, mm, hmm, rfl, N8, K_8, Er8, Fv8, Fc8, Vr8⟩)
  · refine GoesH.step (fun _ k => pw_ifYes X3.here hx (pc' := 22) (hb hby d22_12) ((if0 _ _).trans (feq hc12_3).2) (by decide) (by decide) _ (pw_iloadN X3.here hx (hb hby d22_22) rfl _ (pw_iloadN X3.here hx (hb hby d22_23) rfl _ (pw_isub X3.here hx (hb hby d22_24) _ k)))) ?_
    obtain ⟨mm, hmm⟩ : ∃ z, z = (ee - bb) := ⟨_, rfl⟩
    rw [← hmm]
    have tm := own_dif hmm hb0 hbe
    have hnn : ¬ (bb = (0 : Int32) ∧ mm = z1) := (fun q => hc12_3 q.1)
    refine GoesH.step (fun _ k => pw_istore X3.here hx (l' := #[.val (.ref a1), .val (.int bb), .val (.int ee), .val (.int z1), .val (.int mm)]) (hb hby d22_25) rfl _ (pw_aloadN X3.here hx (hb hby d22_27) rfl rfl _ k)) ?_
    obtain ⟨cq9, kq9, qa9, qb9, qc9⟩ := isOf hZ eh3 E1
    obtain ⟨_, _, ⟨T9, L9, k9, n9⟩, -, X9, ⟨Lc9, hQ9, l9, y9, z9⟩, st9⟩ := X3.virtualBack hx (y := (⟨"java/lang/String", "isLatin1", "()Z"⟩ : MethodName)) (z := (⟨"java/lang/String", "isLatin1", "()Z"⟩ : MethodName)) hown (mvT hZ (own_w41 hw)) (mvT hZ (own_w42 hw)) (notFace_of_selects (args := #[]) (mvT hZ (own_w44 hw))) (mvT hZ (own_w44 hw)) (mvT hZ (own_w43 hw)) (by decide) (backOf (W := 0) (rm8 l Z a0 hw [] a1 b1 k1 z1 xs cs h0 n0 O0 f2 hcs E1 Fc1 Fv1 V1) hZ (own_w45 hw) (own_w8 hw) (by decide) (by decide)) qa9 qc9 (g := (mkF m 28 #[.val (.ref a1), .val (.int bb), .val (.int ee), .val (.int z1), .val (.int mm)] [(.ref a1)])) rfl (by rw [hml]; rfl) (Steps.refl _) (argsL := []) (rest := []) (lenOf pd_7 rfl) rfl (by show 2 * 0 + _ ≤ _; exact Nat.le_of_eq rfl) (hb hby d22_28) (fun _ _ => ⟨rfl, eh3, (by decide : 0 + 0 ≤ _), (by decide : 0 + 0 ≤ _)⟩)
    dsimp only [Pt.U, Pt.locs, Pt.cells, Pt.slots] at X9 l9 y9 z9 st9 hQ9
    subst l9 y9 z9
    obtain ⟨rfl, Nq9, eh9⟩ := hQ9
    have N9 := Fr.app N3 Nq9
    refine GoesH.via (B := T9.setTop (mkF m 31 #[.val (.ref a1), .val (.int bb), .val (.int ee), .val (.int z1), .val (.int mm)] [(.int 1)])) st9 ?_
    refine GoesH.step (fun _ k => pw_ifNo X9.here hx (hb hby d22_31) ((if0 _ _).trans (feq (by decide)).1) _ (pw_aloadN X9.here hx (hb hby d22_34) rfl rfl _ k)) ?_
    obtain ⟨T10, X10, e10, st10⟩ := getF X9 hx hZ hown (host := "") (Or.inl (own_w25 hw)) Via.refl eh9 Fv1 (g := (mkF m 35 #[.val (.ref a1), .val (.int bb), .val (.int ee), .val (.int z1), .val (.int mm)] [(.ref a1)])) rfl rfl (hb hby d22_35)
    refine GoesH.step (B := T10.setTop (mkF m 38 #[.val (.ref a1), .val (.int bb), .val (.int ee), .val (.int z1), .val (.int mm)] [(.ref b1)])) st10 ?_
    refine GoesH.step (fun _ k => pw_iloadN X10.here hx (hb hby d22_38) rfl _ (pw_iload X10.here hx (hb hby d22_39) rfl _ k)) ?_
    obtain ⟨_, vw11, ⟨T11, L11, k11, n11⟩, -, Xr11, S211, sz11, ⟨Lc11, hQ11, l11, y11, z11, Hc11⟩, st11⟩ := callSS X10 hx (y := (⟨"java/lang/StringLatin1", "newString", "([BII)Ljava/lang/String;"⟩ : MethodName)) hown (mvT hZ (own_w109 hw)) (mvT hZ (own_w110 hw)) (mvT hZ (own_w59 hw)) (mvT hZ (own_w111 hw)) (by decide) (backOfSH (W := 0) (rmNS l Z a0 hw [] b1 k1 z1 xs bb mm h0 n0 O0 V1 hb0 (by omega) (by omega) hz5 hnn) hZ (own_w111 hw) (own_w59 hw) (by decide) (by decide) (own_EW hw) (CHr.refl hH0).1) (g := (mkF m 41 #[.val (.ref a1), .val (.int bb), .val (.int ee), .val (.int z1), .val (.int mm)] [(.int mm), (.int bb), (.ref b1)])) rfl (by rw [hml]; rfl) (argsL := [(.ref b1), (.int bb), (.int mm)]) (rest := []) (lenOf pd_15 rfl) rfl (by show 2 * 0 + _ ≤ _; exact Nat.le_of_eq rfl) (hb hby d22_41) (fun _ _ => ⟨rfl, e10, (by decide : 0 + 2 ≤ _), (by decide : 0 + 9 ≤ _)⟩)
    dsimp only [Pt.U, Pt.locs, Pt.cells, Pt.slots] at Xr11 S211 sz11 l11 y11 z11 st11 hQ11 Hc11
    subst l11 y11 z11
    obtain ⟨X11, hS11, hZ11, hown11⟩ := rebS hS0 (by rw [e10]; exact (Nat.le_refl _)) Xr11 S211 sz11 hZ hown
    have CHc11 := (CHr.refl hH0).trans Hc11
    obtain ⟨nr11, nv11, nk11, rfl, Nq11, Kp11, Er11, Fv11, Fc11, Vr11⟩ := hQ11
    have O_11 := O0.keep Kp11 all0
    have K_11 := (Keep.refl h0 []).trans Kp11 all0
    have N11 := Fr.app N9 Nq11
    refine GoesH.via (B := T11.setTop (mkF m 44 #[.val (.ref a1), .val (.int bb), .val (.int ee), .val (.int z1), .val (.int mm)] [(.ref nr11)])) st11 ?_
    refine GoesH.step (fun _ k => pw_goto X11.here hx (pc' := 57) (hb hby d22_44) (by decide) (by decide) _ k) ?_
    exact GoesH.retA X11 hS11 (Nat.le_refl _) hZ11 (own_EW hw) (by rw [show s.heap = h0 from hh]; exact CHc11) hx rfl Bd.returns rfl rfl hlk (hb hby d22_57) (by decide) (by decide) (⟨nr11, nv11, nk11, mm, hmm, rfl, N11, K_11, Er11, Fv11, Fc11, Vr11⟩)
theorem d13_0 : decode jdk_29_method_65_code 0 = .ok (.iload_n 0, 1) := by decide +kernel
theorem d13_1 : decode jdk_29_method_65_code 1 = .ok (.iload_n 1, 1) := by decide +kernel
theorem d13_2 : decode jdk_29_method_65_code 2 = .ok (.if_icmp .lt 7, 3) := by decide +kernel
theorem d13_9 : decode jdk_29_method_65_code 9 = .ok (.iload_n 1, 1) := by decide +kernel
theorem d13_10 : decode jdk_29_method_65_code 10 = .ok (.ireturn, 1) := by decide +kernel
theorem d13_5 : decode jdk_29_method_65_code 5 = .ok (.iload_n 0, 1) := by decide +kernel
theorem d13_6 : decode jdk_29_method_65_code 6 = .ok (.goto 4, 3) := by decide +kernel
theorem ef_rm13 (m : MethodId) (x0 : Int32) (x1 : Int32) : entryFrame m #[(.int x0), (.int x1)] 2 = mkF m 0 #[.val (.int x0), .val (.int x1)] [] := by first | (simp [entryFrame, mkF, argsToLocals, Value.category]; done) | rfl
def Q13 (Z : State) (p1 : Int32) (p2 : Int32) (h0 : Heap) (n0 : Nat) (v : Option Value) (h : Heap) (L : List Loc) : Prop := v = some (.int (own_max p1 p2)) ∧ Fr n0 L ∧ h = h0
set_option maxRecDepth 65536 in
set_option maxHeartbeats 40000000 in
theorem rm13 (l : Launch) (Z : State) (a0 : Array Value) (hw : ∀ d ∈ tables_1, d.before a0 Z = true) (ws : List Jvm.Cond) (p1 : Int32) (p2 : Int32) (h0 : Heap) (n0 : Nat) (O0 : Old Z n0 h0) :
    MetFree l (⟨"java/lang/Math", "max", "(II)I"⟩ : MethodName) (head1 (Jvm.Cond.code (⟨"java/lang/Math", "max", "(II)I"⟩ : MethodName) jdk_29_method_65_code 2 (some .int) :: ws) ({ frames := 0, cells := 0, slots := 0, locals := 0 } : Room)) (fun a U => a = #[(.int p1), (.int p2)] ∧ Z.Warmed39 U.vm ∧ U.heap = h0) (fun _ _ _ _ _ => True) (fun _ U o U' => ∃ v L, o = .returned v ∧ Q13 Z p1 p2 h0 n0 v U'.heap L ∧ FrameEnd U o U' L ({ frames := 0, cells := 0, slots := 0, locals := 0 } : Room).cells ({ frames := 0, cells := 0, slots := 0, locals := 0 } : Room).slots) := by
  refine MetFree.of_bodySF (Jvm.Free.JP.mathPlain rfl (by decide +kernel)) hisR ?_
  intro p e s m args below meth c s₁ Bd hml0 hP hK
  obtain ⟨rfl, hZ, hh⟩ := hP
  have hx := Bd.exec
  have hby := Bd.bytes
  have hlk : meth.locks = false := BodyLoose.notSynchronized Bd
  have hml : c.maxLocals = 2 := hml0
  have hown : s.vm.findClass "java/lang/Math" = some m.cls := findClass_of_methodNamed Bd.named
  have hnm := (name_of_methodNamed Bd.named Bd.method).1
  have X0 : Stand p l e ({ frames := 0, cells := 0, slots := 0, locals := 0 } : Room) s m #[(.int p1), (.int p2)] below meth c s₁ [] 0 0 := Stand.of_body Bd
  have e0 : s₁.heap = h0 := by rw [← hh, Bd.state]; rfl
  have N0 := Fr.nil n0
  show Goes p e below s (Q13 Z p1 p2 h0 n0) ({ frames := 0, cells := 0, slots := 0, locals := 0 } : Room).cells ({ frames := 0, cells := 0, slots := 0, locals := 0 } : Room).slots (s₁.setTop (entryFrame m #[(.int p1), (.int p2)] 2))
  refine Goes.enter (g' := (mkF m 0 #[.val (.int p1), .val (.int p2)] [])) (ef_rm13 m p1 p2) ?_
  refine Goes.step (fun _ k => pw_iloadN X0.here hx (hb hby d13_0) rfl _ (pw_iloadN X0.here hx (hb hby d13_1) rfl _ k)) ?_
  by_cases hc2_0 : p1 < p2
  · refine Goes.step (fun _ k => pw_icmpYes X0.here hx (pc' := 9) (hb hby d13_2) (tlt hc2_0).1 (by decide) (by decide) _ (pw_iloadN X0.here hx (hb hby d13_9) rfl _ k)) ?_
    exact Goes.retI X0 hx e0 Bd.returns hlk (hb hby d13_10) (by decide) (by decide) (⟨(by unfold own_max; rw [if_pos hc2_0]; try rfl), N0, rfl⟩)
  · refine Goes.step (fun _ k => pw_icmpNo X0.here hx (hb hby d13_2) (flt hc2_0).1 _ (pw_iloadN X0.here hx (hb hby d13_5) rfl _ (pw_goto X0.here hx (pc' := 10) (hb hby d13_6) (by decide) (by decide) _ k))) ?_
    exact Goes.retI X0 hx e0 Bd.returns hlk (hb hby d13_10) (by decide) (by decide) (⟨(by unfold own_max; rw [if_neg hc2_0]; try rfl), N0, rfl⟩)
theorem d21_0 : decode jdk_43_method_23_code 0 = .ok (.iload_n 1, 1) := by decide +kernel
theorem d21_1 : decode jdk_43_method_23_code 1 = .ok (.i2b, 1) := by decide +kernel
theorem d21_2 : decode jdk_43_method_23_code 2 = .ok (.istore 4, 2) := by decide +kernel
theorem d21_4 : decode jdk_43_method_23_code 4 = .ok (.iload_n 2, 1) := by decide +kernel
theorem d21_5 : decode jdk_43_method_23_code 5 = .ok (.istore 5, 2) := by decide +kernel
theorem d21_7 : decode jdk_43_method_23_code 7 = .ok (.iload 5, 2) := by decide +kernel
theorem d21_9 : decode jdk_43_method_23_code 9 = .ok (.iload_n 3, 1) := by decide +kernel
theorem d21_10 : decode jdk_43_method_23_code 10 = .ok (.if_icmp .ge 21, 3) := by decide +kernel
theorem d21_31 : decode jdk_43_method_23_code 31 = .ok (.iconst (-1), 1) := by decide +kernel
theorem d21_32 : decode jdk_43_method_23_code 32 = .ok (.ireturn, 1) := by decide +kernel
theorem d21_13 : decode jdk_43_method_23_code 13 = .ok (.aload_n 0, 1) := by decide +kernel
theorem d21_14 : decode jdk_43_method_23_code 14 = .ok (.iload 5, 2) := by decide +kernel
theorem d21_16 : decode jdk_43_method_23_code 16 = .ok (.baload, 1) := by decide +kernel
theorem d21_17 : decode jdk_43_method_23_code 17 = .ok (.iload 4, 2) := by decide +kernel
theorem d21_19 : decode jdk_43_method_23_code 19 = .ok (.if_icmp .ne 6, 3) := by decide +kernel
theorem d21_22 : decode jdk_43_method_23_code 22 = .ok (.iload 5, 2) := by decide +kernel
theorem d21_24 : decode jdk_43_method_23_code 24 = .ok (.ireturn, 1) := by decide +kernel
theorem d21_25 : decode jdk_43_method_23_code 25 = .ok (.iinc 5 1, 3) := by decide +kernel
theorem d21_28 : decode jdk_43_method_23_code 28 = .ok (.goto (-21), 3) := by decide +kernel
theorem ef_rmIC (m : MethodId) (x0 : Addr) (x1 : Int32) (x2 : Int32) (x3 : Int32) : entryFrame m #[(.ref x0), (.int x1), (.int x2), (.int x3)] 6 = mkF m 0 #[.val (.ref x0), .val (.int x1), .val (.int x2), .val (.int x3), .unset, .unset] [] := by first | (simp [entryFrame, mkF, argsToLocals, Value.category]; done) | rfl
def QIC (Z : State) (b1 : Addr) (k1 : ClassId) (z1 : Int32) (xs : List Int32) (p1 : Int32) (h0 : Heap) (n0 : Nat) (v : Option Value) (h : Heap) (L : List Loc) : Prop := v = some (.int (own_ixx p1 xs)) ∧ Fr n0 L ∧ h = h0
set_option maxRecDepth 65536 in
set_option maxHeartbeats 40000000 in
theorem rmIC (l : Launch) (Z : State) (a0 : Array Value) (hw : ∀ d ∈ tables_1, d.before a0 Z = true) (ws : List Jvm.Cond) (b1 : Addr) (k1 : ClassId) (z1 : Int32) (xs : List Int32) (p1 : Int32) (h0 : Heap) (n0 : Nat) (O0 : Old Z n0 h0) (V1 : Arv Z h0 b1 k1 .byte z1 (xs.map Value.int) (.int (0 : Int32))) (hzl : z1.toNatClampNeg = xs.length) (hz4 : z1.toInt ≤ 4) :
    MetFree l (⟨"java/lang/StringLatin1", "indexOfChar", "([BIII)I"⟩ : MethodName) (head1 (Jvm.Cond.code (⟨"java/lang/StringLatin1", "indexOfChar", "([BIII)I"⟩ : MethodName) jdk_43_method_23_code 6 (some .int) :: ws) ({ frames := 0, cells := 0, slots := 0, locals := 0 } : Room)) (fun a U => a = #[(.ref b1), (.int p1), (.int 0), (.int z1)] ∧ Z.Warmed39 U.vm ∧ U.heap = h0) (fun _ _ _ _ _ => True) (fun _ U o U' => ∃ v L, o = .returned v ∧ QIC Z b1 k1 z1 xs p1 h0 n0 v U'.heap L ∧ FrameEnd U o U' L ({ frames := 0, cells := 0, slots := 0, locals := 0 } : Room).cells ({ frames := 0, cells := 0, slots := 0, locals := 0 } : Room).slots) := by
  refine MetFree.of_bodySF (plainFor_of_name pn_StringLatin1) hisR ?_
  intro p e s m args below meth c s₁ Bd hml0 hP hK
  obtain ⟨rfl, hZ, hh⟩ := hP
  have hx := Bd.exec
  have hby := Bd.bytes
  have hlk : meth.locks = false := BodyLoose.notSynchronized Bd
  have hml : c.maxLocals = 6 := hml0
  have hown : s.vm.findClass "java/lang/StringLatin1" = some m.cls := findClass_of_methodNamed Bd.named
  have hnm := (name_of_methodNamed Bd.named Bd.method).1
  have X0 : Stand p l e ({ frames := 0, cells := 0, slots := 0, locals := 0 } : Room) s m #[(.ref b1), (.int p1), (.int 0), (.int z1)] below meth c s₁ [] 0 0 := Stand.of_body Bd
  have e0 : s₁.heap = h0 := by rw [← hh, Bd.state]; rfl
  have N0 := Fr.nil n0
  show Goes p e below s (QIC Z b1 k1 z1 xs p1 h0 n0) ({ frames := 0, cells := 0, slots := 0, locals := 0 } : Room).cells ({ frames := 0, cells := 0, slots := 0, locals := 0 } : Room).slots (s₁.setTop (entryFrame m #[(.ref b1), (.int p1), (.int 0), (.int z1)] 6))
  refine Goes.enter (g' := (mkF m 0 #[.val (.ref b1), .val (.int p1), .val (.int 0), .val (.int z1), .unset, .unset] [])) (ef_rmIC m b1 p1 ((0 : Int32)) z1) ?_
  have hz0 : ¬ z1 < 0 := by obtain ⟨_, _, _, _, q, _⟩ := id V1; exact q
  rcases own_l5 hzl hz4 hz0 with ⟨rfl, rfl⟩ | ⟨x0, rfl, rfl⟩ | ⟨x0, x1, rfl, rfl⟩ | ⟨x0, x1, x2, rfl, rfl⟩ | ⟨x0, x1, x2, x3, rfl, rfl⟩
  · refine Goes.step (fun _ k => pw_iloadN X0.here hx (hb hby d21_0) rfl _ k) ?_
    refine Goes.step (B := s₁.setTop (mkF m 2 #[.val (.ref b1), .val (.int p1), .val (.int 0), .val (.int 0), .unset, .unset] [(.int (p1.toInt8.toInt32))])) (fun _ k => XS.i2b X0.here hx rfl (hb hby d21_1) rfl k) ?_
    refine Goes.step (fun _ k => pw_istore X0.here hx (l' := #[.val (.ref b1), .val (.int p1), .val (.int 0), .val (.int 0), .val (.int (p1.toInt8.toInt32)), .unset]) (hb hby d21_2) rfl _ (pw_iloadN X0.here hx (hb hby d21_4) rfl _ (pw_istore X0.here hx (l' := #[.val (.ref b1), .val (.int p1), .val (.int 0), .val (.int 0), .val (.int (p1.toInt8.toInt32)), .val (.int 0)]) (hb hby d21_5) rfl _ (pw_iload X0.here hx (hb hby d21_7) rfl _ (pw_iloadN X0.here hx (hb hby d21_9) rfl _ (pw_icmpYes X0.here hx (pc' := 31) (hb hby d21_10) (flt (by decide)).2.1 (by decide) (by decide) _ k)))))) ?_
    refine Goes.step (fun _ k => pw_iconst X0.here hx (v := (-1 : Int32)) (hb hby d21_31) rfl _ k) ?_
    exact Goes.retI X0 hx e0 Bd.returns hlk (hb hby d21_32) (by decide) (by decide) (⟨rfl, N0, rfl⟩)
  · refine Goes.step (fun _ k => pw_iloadN X0.here hx (hb hby d21_0) rfl _ k) ?_
    refine Goes.step (B := s₁.setTop (mkF m 2 #[.val (.ref b1), .val (.int p1), .val (.int 0), .val (.int 1), .unset, .unset] [(.int (p1.toInt8.toInt32))])) (fun _ k => XS.i2b X0.here hx rfl (hb hby d21_1) rfl k) ?_
    refine Goes.step (fun _ k => pw_istore X0.here hx (l' := #[.val (.ref b1), .val (.int p1), .val (.int 0), .val (.int 1), .val (.int (p1.toInt8.toInt32)), .unset]) (hb hby d21_2) rfl _ (pw_iloadN X0.here hx (hb hby d21_4) rfl _ (pw_istore X0.here hx (l' := #[.val (.ref b1), .val (.int p1), .val (.int 0), .val (.int 1), .val (.int (p1.toInt8.toInt32)), .val (.int 0)]) (hb hby d21_5) rfl _ (pw_iload X0.here hx (hb hby d21_7) rfl _ (pw_iloadN X0.here hx (hb hby d21_9) rfl _ (pw_icmpNo X0.here hx (hb hby d21_10) (tlt (by decide)).2.1 _ k)))))) ?_
    refine Goes.step (fun _ k => pw_aloadN X0.here hx (hb hby d21_13) rfl rfl _ (pw_iload X0.here hx (hb hby d21_14) rfl _ k)) ?_
    obtain ⟨c1, Ar1, -, Sz1, Nn1, Hs1, -⟩ := id V1
    have hin1 : ¬ ((0 : Int32) < 0 ∨ c1.slots.size ≤ ((0 : Int32)).toNatClampNeg) := inb_of Sz1 ⟨by decide, by decide⟩
    refine Goes.step (B := s₁.setTop (mkF m 17 #[.val (.ref b1), .val (.int p1), .val (.int 0), .val (.int 1), .val (.int (p1.toInt8.toInt32)), .val (.int 0)] [(.int x0)])) (X0.baloadBytes hx (j := (0 : Int32)) (v := (.int x0)) (by rw [e0]; exact Ar1.1) (State.isArrayOf_alike hZ.alike Ar1.2.1) Ar1.2.2 hin1 (Has.at Hs1 hin1 rfl) (g := (mkF m 16 #[.val (.ref b1), .val (.int p1), .val (.int 0), .val (.int 1), .val (.int (p1.toInt8.toInt32)), .val (.int 0)] [(.int 0), (.ref b1)])) rfl rfl (hb hby d21_16)) ?_
    refine Goes.step (fun _ k => pw_iload X0.here hx (hb hby d21_17) rfl _ k) ?_
    by_cases hc19_1 : x0 = (p1.toInt8.toInt32)
    · refine Goes.step (fun _ k => pw_icmpNo X0.here hx (hb hby d21_19) (teq hc19_1).2 _ (pw_iload X0.here hx (hb hby d21_22) rfl _ k)) ?_
      exact Goes.retI X0 hx e0 Bd.returns hlk (hb hby d21_24) (by decide) (by decide) (⟨(by rw [show own_ixx p1 [x0] = own_ix1 p1 x0 from rfl, own_ix1, if_pos hc19_1]; try rfl), N0, rfl⟩)
    · refine Goes.step (fun _ k => pw_icmpYes X0.here hx (pc' := 25) (hb hby d21_19) (feq hc19_1).2 (by decide) (by decide) _ (pw_iinc X0.here hx (l' := #[.val (.ref b1), .val (.int p1), .val (.int 0), .val (.int 1), .val (.int (p1.toInt8.toInt32)), .val (.int 1)]) (hb hby d21_25) rfl rfl _ (pw_goto X0.here hx (pc' := 7) (hb hby d21_28) (by decide) (by decide) _ (pw_iload X0.here hx (hb hby d21_7) rfl _ (pw_iloadN X0.here hx (hb hby d21_9) rfl _ (pw_icmpYes X0.here hx (pc' := 31) (hb hby d21_10) (flt (by decide)).2.1 (by decide) (by decide) _ k)))))) ?_
      refine Goes.step (fun _ k => pw_iconst X0.here hx (v := (-1 : Int32)) (hb hby d21_31) rfl _ k) ?_
      exact Goes.retI X0 hx e0 Bd.returns hlk (hb hby d21_32) (by decide) (by decide) (⟨(by rw [show own_ixx p1 [x0] = own_ix1 p1 x0 from rfl, own_ix1, if_neg hc19_1]; try rfl), N0, rfl⟩)
  · refine Goes.step (fun _ k => pw_iloadN X0.here hx (hb hby d21_0) rfl _ k) ?_
    refine Goes.step (B := s₁.setTop (mkF m 2 #[.val (.ref b1), .val (.int p1), .val (.int 0), .val (.int 2), .unset, .unset] [(.int (p1.toInt8.toInt32))])) (fun _ k => XS.i2b X0.here hx rfl (hb hby d21_1) rfl k) ?_
    refine Goes.step (fun _ k => pw_istore X0.here hx (l' := #[.val (.ref b1), .val (.int p1), .val (.int 0), .val (.int 2), .val (.int (p1.toInt8.toInt32)), .unset]) (hb hby d21_2) rfl _ (pw_iloadN X0.here hx (hb hby d21_4) rfl _ (pw_istore X0.here hx (l' := #[.val (.ref b1), .val (.int p1), .val (.int 0), .val (.int 2), .val (.int (p1.toInt8.toInt32)), .val (.int 0)]) (hb hby d21_5) rfl _ (pw_iload X0.here hx (hb hby d21_7) rfl _ (pw_iloadN X0.here hx (hb hby d21_9) rfl _ (pw_icmpNo X0.here hx (hb hby d21_10) (tlt (by decide)).2.1 _ k)))))) ?_
    refine Goes.step (fun _ k => pw_aloadN X0.here hx (hb hby d21_13) rfl rfl _ (pw_iload X0.here hx (hb hby d21_14) rfl _ k)) ?_
    obtain ⟨c3, Ar3, -, Sz3, Nn3, Hs3, -⟩ := id V1
    have hin3 : ¬ ((0 : Int32) < 0 ∨ c3.slots.size ≤ ((0 : Int32)).toNatClampNeg) := inb_of Sz3 ⟨by decide, by decide⟩
    refine Goes.step (B := s₁.setTop (mkF m 17 #[.val (.ref b1), .val (.int p1), .val (.int 0), .val (.int 2), .val (.int (p1.toInt8.toInt32)), .val (.int 0)] [(.int x0)])) (X0.baloadBytes hx (j := (0 : Int32)) (v := (.int x0)) (by rw [e0]; exact Ar3.1) (State.isArrayOf_alike hZ.alike Ar3.2.1) Ar3.2.2 hin3 (Has.at Hs3 hin3 rfl) (g := (mkF m 16 #[.val (.ref b1), .val (.int p1), .val (.int 0), .val (.int 2), .val (.int (p1.toInt8.toInt32)), .val (.int 0)] [(.int 0), (.ref b1)])) rfl rfl (hb hby d21_16)) ?_
    refine Goes.step (fun _ k => pw_iload X0.here hx (hb hby d21_17) rfl _ k) ?_
    by_cases hc19_3 : x0 = (p1.toInt8.toInt32)
    · refine Goes.step (fun _ k => pw_icmpNo X0.here hx (hb hby d21_19) (teq hc19_3).2 _ (pw_iload X0.here hx (hb hby d21_22) rfl _ k)) ?_
      exact Goes.retI X0 hx e0 Bd.returns hlk (hb hby d21_24) (by decide) (by decide) (⟨(by rw [show own_ixx p1 [x0, x1] = own_ix2 p1 x0 x1 from rfl, own_ix2, if_pos hc19_3]; try rfl), N0, rfl⟩)
    · refine Goes.step (fun _ k => pw_icmpYes X0.here hx (pc' := 25) (hb hby d21_19) (feq hc19_3).2 (by decide) (by decide) _ (pw_iinc X0.here hx (l' := #[.val (.ref b1), .val (.int p1), .val (.int 0), .val (.int 2), .val (.int (p1.toInt8.toInt32)), .val (.int 1)]) (hb hby d21_25) rfl rfl _ (pw_goto X0.here hx (pc' := 7) (hb hby d21_28) (by decide) (by decide) _ (pw_iload X0.here hx (hb hby d21_7) rfl _ (pw_iloadN X0.here hx (hb hby d21_9) rfl _ (pw_icmpNo X0.here hx (hb hby d21_10) (tlt (by decide)).2.1 _ k)))))) ?_
      refine Goes.step (fun _ k => pw_aloadN X0.here hx (hb hby d21_13) rfl rfl _ (pw_iload X0.here hx (hb hby d21_14) rfl _ k)) ?_
      obtain ⟨c5, Ar5, -, Sz5, Nn5, Hs5, -⟩ := id V1
      have hin5 : ¬ ((1 : Int32) < 0 ∨ c5.slots.size ≤ ((1 : Int32)).toNatClampNeg) := inb_of Sz5 ⟨by decide, by decide⟩
      refine Goes.step (B := s₁.setTop (mkF m 17 #[.val (.ref b1), .val (.int p1), .val (.int 0), .val (.int 2), .val (.int (p1.toInt8.toInt32)), .val (.int 1)] [(.int x1)])) (X0.baloadBytes hx (j := (1 : Int32)) (v := (.int x1)) (by rw [e0]; exact Ar5.1) (State.isArrayOf_alike hZ.alike Ar5.2.1) Ar5.2.2 hin5 (Has.at Hs5 hin5 rfl) (g := (mkF m 16 #[.val (.ref b1), .val (.int p1), .val (.int 0), .val (.int 2), .val (.int (p1.toInt8.toInt32)), .val (.int 1)] [(.int 1), (.ref b1)])) rfl rfl (hb hby d21_16)) ?_
      refine Goes.step (fun _ k => pw_iload X0.here hx (hb hby d21_17) rfl _ k) ?_
      by_cases hc19_5 : x1 = (p1.toInt8.toInt32)
      · refine Goes.step (fun _ k => pw_icmpNo X0.here hx (hb hby d21_19) (teq hc19_5).2 _ (pw_iload X0.here hx (hb hby d21_22) rfl _ k)) ?_
        exact Goes.retI X0 hx e0 Bd.returns hlk (hb hby d21_24) (by decide) (by decide) (⟨(by rw [show own_ixx p1 [x0, x1] = own_ix2 p1 x0 x1 from rfl, own_ix2, if_neg hc19_3, if_pos hc19_5]; try rfl), N0, rfl⟩)
      · refine Goes.step (fun _ k => pw_icmpYes X0.here hx (pc' := 25) (hb hby d21_19) (feq hc19_5).2 (by decide) (by decide) _ (pw_iinc X0.here hx (l' := #[.val (.ref b1), .val (.int p1), .val (.int 0), .val (.int 2), .val (.int (p1.toInt8.toInt32)), .val (.int 2)]) (hb hby d21_25) rfl rfl _ (pw_goto X0.here hx (pc' := 7) (hb hby d21_28) (by decide) (by decide) _ (pw_iload X0.here hx (hb hby d21_7) rfl _ (pw_iloadN X0.here hx (hb hby d21_9) rfl _ (pw_icmpYes X0.here hx (pc' := 31) (hb hby d21_10) (flt (by decide)).2.1 (by decide) (by decide) _ k)))))) ?_
        refine Goes.step (fun _ k => pw_iconst X0.here hx (v := (-1 : Int32)) (hb hby d21_31) rfl _ k) ?_
        exact Goes.retI X0 hx e0 Bd.returns hlk (hb hby d21_32) (by decide) (by decide) (⟨(by rw [show own_ixx p1 [x0, x1] = own_ix2 p1 x0 x1 from rfl, own_ix2, if_neg hc19_3, if_neg hc19_5]; try rfl), N0, rfl⟩)
  · refine Goes.step (fun _ k => pw_iloadN X0.here hx (hb hby d21_0) rfl _ k) ?_
    refine Goes.step (B := s₁.setTop (mkF m 2 #[.val (.ref b1), .val (.int p1), .val (.int 0), .val (.int 3), .unset, .unset] [(.int (p1.toInt8.toInt32))])) (fun _ k => XS.i2b X0.here hx rfl (hb hby d21_1) rfl k) ?_
    refine Goes.step (fun _ k => pw_istore X0.here hx (l' := #[.val (.ref b1), .val (.int p1), .val (.int 0), .val (.int 3), .val (.int (p1.toInt8.toInt32)), .unset]) (hb hby d21_2) rfl _ (pw_iloadN X0.here hx (hb hby d21_4) rfl _ (pw_istore X0.here hx (l' := #[.val (.ref b1), .val (.int p1), .val (.int 0), .val (.int 3), .val (.int (p1.toInt8.toInt32)), .val (.int 0)]) (hb hby d21_5) rfl _ (pw_iload X0.here hx (hb hby d21_7) rfl _ (pw_iloadN X0.here hx (hb hby d21_9) rfl _ (pw_icmpNo X0.here hx (hb hby d21_10) (tlt (by decide)).2.1 _ k)))))) ?_
    refine Goes.step (fun _ k => pw_aloadN X0.here hx (hb hby d21_13) rfl rfl _ (pw_iload X0.here hx (hb hby d21_14) rfl _ k)) ?_
    obtain ⟨c7, Ar7, -, Sz7, Nn7, Hs7, -⟩ := id V1
    have hin7 : ¬ ((0 : Int32) < 0 ∨ c7.slots.size ≤ ((0 : Int32)).toNatClampNeg) := inb_of Sz7 ⟨by decide, by decide⟩
    refine Goes.step (B := s₁.setTop (mkF m 17 #[.val (.ref b1), .val (.int p1), .val (.int 0), .val (.int 3), .val (.int (p1.toInt8.toInt32)), .val (.int 0)] [(.int x0)])) (X0.baloadBytes hx (j := (0 : Int32)) (v := (.int x0)) (by rw [e0]; exact Ar7.1) (State.isArrayOf_alike hZ.alike Ar7.2.1) Ar7.2.2 hin7 (Has.at Hs7 hin7 rfl) (g := (mkF m 16 #[.val (.ref b1), .val (.int p1), .val (.int 0), .val (.int 3), .val (.int (p1.toInt8.toInt32)), .val (.int 0)] [(.int 0), (.ref b1)])) rfl rfl (hb hby d21_16)) ?_
    refine Goes.step (fun _ k => pw_iload X0.here hx (hb hby d21_17) rfl _ k) ?_
    by_cases hc19_7 : x0 = (p1.toInt8.toInt32)
    · refine Goes.step (fun _ k => pw_icmpNo X0.here hx (hb hby d21_19) (teq hc19_7).2 _ (pw_iload X0.here hx (hb hby d21_22) rfl _ k)) ?_
      exact Goes.retI X0 hx e0 Bd.returns hlk (hb hby d21_24) (by decide) (by decide) (⟨(by rw [show own_ixx p1 [x0, x1, x2] = own_ix3 p1 x0 x1 x2 from rfl, own_ix3, if_pos hc19_7]; try rfl), N0, rfl⟩)
    · refine Goes.step (fun _ k => pw_icmpYes X0.here hx (pc' := 25) (hb hby d21_19) (feq hc19_7).2 (by decide) (by decide) _ (pw_iinc X0.here hx (l' := #[.val (.ref b1), .val (.int p1), .val (.int 0), .val (.int 3), .val (.int (p1.toInt8.toInt32)), .val (.int 1)]) (hb hby d21_25) rfl rfl _ (pw_goto X0.here hx (pc' := 7) (hb hby d21_28) (by decide) (by decide) _ (pw_iload X0.here hx (hb hby d21_7) rfl _ (pw_iloadN X0.here hx (hb hby d21_9) rfl _ (pw_icmpNo X0.here hx (hb hby d21_10) (tlt (by decide)).2.1 _ k)))))) ?_
      refine Goes.step (fun _ k => pw_aloadN X0.here hx (hb hby d21_13) rfl rfl _ (pw_iload X0.here hx (hb hby d21_14) rfl _ k)) ?_
      obtain ⟨c9, Ar9, -, Sz9, Nn9, Hs9, -⟩ := id V1
      have hin9 : ¬ ((1 : Int32) < 0 ∨ c9.slots.size ≤ ((1 : Int32)).toNatClampNeg) := inb_of Sz9 ⟨by decide, by decide⟩
      refine Goes.step (B := s₁.setTop (mkF m 17 #[.val (.ref b1), .val (.int p1), .val (.int 0), .val (.int 3), .val (.int (p1.toInt8.toInt32)), .val (.int 1)] [(.int x1)])) (X0.baloadBytes hx (j := (1 : Int32)) (v := (.int x1)) (by rw [e0]; exact Ar9.1) (State.isArrayOf_alike hZ.alike Ar9.2.1) Ar9.2.2 hin9 (Has.at Hs9 hin9 rfl) (g := (mkF m 16 #[.val (.ref b1), .val (.int p1), .val (.int 0), .val (.int 3), .val (.int (p1.toInt8.toInt32)), .val (.int 1)] [(.int 1), (.ref b1)])) rfl rfl (hb hby d21_16)) ?_
      refine Goes.step (fun _ k => pw_iload X0.here hx (hb hby d21_17) rfl _ k) ?_
      by_cases hc19_9 : x1 = (p1.toInt8.toInt32)
      · refine Goes.step (fun _ k => pw_icmpNo X0.here hx (hb hby d21_19) (teq hc19_9).2 _ (pw_iload X0.here hx (hb hby d21_22) rfl _ k)) ?_
        exact Goes.retI X0 hx e0 Bd.returns hlk (hb hby d21_24) (by decide) (by decide) (⟨(by rw [show own_ixx p1 [x0, x1, x2] = own_ix3 p1 x0 x1 x2 from rfl, own_ix3, if_neg hc19_7, if_pos hc19_9]; try rfl), N0, rfl⟩)
      · refine Goes.step (fun _ k => pw_icmpYes X0.here hx (pc' := 25) (hb hby d21_19) (feq hc19_9).2 (by decide) (by decide) _ (pw_iinc X0.here hx (l' := #[.val (.ref b1), .val (.int p1), .val (.int 0), .val (.int 3), .val (.int (p1.toInt8.toInt32)), .val (.int 2)]) (hb hby d21_25) rfl rfl _ (pw_goto X0.here hx (pc' := 7) (hb hby d21_28) (by decide) (by decide) _ (pw_iload X0.here hx (hb hby d21_7) rfl _ (pw_iloadN X0.here hx (hb hby d21_9) rfl _ (pw_icmpNo X0.here hx (hb hby d21_10) (tlt (by decide)).2.1 _ k)))))) ?_
        refine Goes.step (fun _ k => pw_aloadN X0.here hx (hb hby d21_13) rfl rfl _ (pw_iload X0.here hx (hb hby d21_14) rfl _ k)) ?_
        obtain ⟨c11, Ar11, -, Sz11, Nn11, Hs11, -⟩ := id V1
        have hin11 : ¬ ((2 : Int32) < 0 ∨ c11.slots.size ≤ ((2 : Int32)).toNatClampNeg) := inb_of Sz11 ⟨by decide, by decide⟩
        refine Goes.step (B := s₁.setTop (mkF m 17 #[.val (.ref b1), .val (.int p1), .val (.int 0), .val (.int 3), .val (.int (p1.toInt8.toInt32)), .val (.int 2)] [(.int x2)])) (X0.baloadBytes hx (j := (2 : Int32)) (v := (.int x2)) (by rw [e0]; exact Ar11.1) (State.isArrayOf_alike hZ.alike Ar11.2.1) Ar11.2.2 hin11 (Has.at Hs11 hin11 rfl) (g := (mkF m 16 #[.val (.ref b1), .val (.int p1), .val (.int 0), .val (.int 3), .val (.int (p1.toInt8.toInt32)), .val (.int 2)] [(.int 2), (.ref b1)])) rfl rfl (hb hby d21_16)) ?_
        refine Goes.step (fun _ k => pw_iload X0.here hx (hb hby d21_17) rfl _ k) ?_
        by_cases hc19_11 : x2 = (p1.toInt8.toInt32)
        · refine Goes.step (fun _ k => pw_icmpNo X0.here hx (hb hby d21_19) (teq hc19_11).2 _ (pw_iload X0.here hx (hb hby d21_22) rfl _ k)) ?_
          exact Goes.retI X0 hx e0 Bd.returns hlk (hb hby d21_24) (by decide) (by decide) (⟨(by rw [show own_ixx p1 [x0, x1, x2] = own_ix3 p1 x0 x1 x2 from rfl, own_ix3, if_neg hc19_7, if_neg hc19_9, if_pos hc19_11]; try rfl), N0, rfl⟩)
        · refine Goes.step (fun _ k => pw_icmpYes X0.here hx (pc' := 25) (hb hby d21_19) (feq hc19_11).2 (by decide) (by decide) _ (pw_iinc X0.here hx (l' := #[.val (.ref b1), .val (.int p1), .val (.int 0), .val (.int 3), .val (.int (p1.toInt8.toInt32)), .val (.int 3)]) (hb hby d21_25) rfl rfl _ (pw_goto X0.here hx (pc' := 7) (hb hby d21_28) (by decide) (by decide) _ (pw_iload X0.here hx (hb hby d21_7) rfl _ (pw_iloadN X0.here hx (hb hby d21_9) rfl _ (pw_icmpYes X0.here hx (pc' := 31) (hb hby d21_10) (flt (by decide)).2.1 (by decide) (by decide) _ k)))))) ?_
          refine Goes.step (fun _ k => pw_iconst X0.here hx (v := (-1 : Int32)) (hb hby d21_31) rfl _ k) ?_
          exact Goes.retI X0 hx e0 Bd.returns hlk (hb hby d21_32) (by decide) (by decide) (⟨(by rw [show own_ixx p1 [x0, x1, x2] = own_ix3 p1 x0 x1 x2 from rfl, own_ix3, if_neg hc19_7, if_neg hc19_9, if_neg hc19_11]; try rfl), N0, rfl⟩)
  · refine Goes.step (fun _ k => pw_iloadN X0.here hx (hb hby d21_0) rfl _ k) ?_
    refine Goes.step (B := s₁.setTop (mkF m 2 #[.val (.ref b1), .val (.int p1), .val (.int 0), .val (.int 4), .unset, .unset] [(.int (p1.toInt8.toInt32))])) (fun _ k => XS.i2b X0.here hx rfl (hb hby d21_1) rfl k) ?_
    refine Goes.step (fun _ k => pw_istore X0.here hx (l' := #[.val (.ref b1), .val (.int p1), .val (.int 0), .val (.int 4), .val (.int (p1.toInt8.toInt32)), .unset]) (hb hby d21_2) rfl _ (pw_iloadN X0.here hx (hb hby d21_4) rfl _ (pw_istore X0.here hx (l' := #[.val (.ref b1), .val (.int p1), .val (.int 0), .val (.int 4), .val (.int (p1.toInt8.toInt32)), .val (.int 0)]) (hb hby d21_5) rfl _ (pw_iload X0.here hx (hb hby d21_7) rfl _ (pw_iloadN X0.here hx (hb hby d21_9) rfl _ (pw_icmpNo X0.here hx (hb hby d21_10) (tlt (by decide)).2.1 _ k)))))) ?_
    refine Goes.step (fun _ k => pw_aloadN X0.here hx (hb hby d21_13) rfl rfl _ (pw_iload X0.here hx (hb hby d21_14) rfl _ k)) ?_
    obtain ⟨c13, Ar13, -, Sz13, Nn13, Hs13, -⟩ := id V1
    have hin13 : ¬ ((0 : Int32) < 0 ∨ c13.slots.size ≤ ((0 : Int32)).toNatClampNeg) := inb_of Sz13 ⟨by decide, by decide⟩
    refine Goes.step (B := s₁.setTop (mkF m 17 #[.val (.ref b1), .val (.int p1), .val (.int 0), .val (.int 4), .val (.int (p1.toInt8.toInt32)), .val (.int 0)] [(.int x0)])) (X0.baloadBytes hx (j := (0 : Int32)) (v := (.int x0)) (by rw [e0]; exact Ar13.1) (State.isArrayOf_alike hZ.alike Ar13.2.1) Ar13.2.2 hin13 (Has.at Hs13 hin13 rfl) (g := (mkF m 16 #[.val (.ref b1), .val (.int p1), .val (.int 0), .val (.int 4), .val (.int (p1.toInt8.toInt32)), .val (.int 0)] [(.int 0), (.ref b1)])) rfl rfl (hb hby d21_16)) ?_
    refine Goes.step (fun _ k => pw_iload X0.here hx (hb hby d21_17) rfl _ k) ?_
    by_cases hc19_13 : x0 = (p1.toInt8.toInt32)
    · refine Goes.step (fun _ k => pw_icmpNo X0.here hx (hb hby d21_19) (teq hc19_13).2 _ (pw_iload X0.here hx (hb hby d21_22) rfl _ k)) ?_
      exact Goes.retI X0 hx e0 Bd.returns hlk (hb hby d21_24) (by decide) (by decide) (⟨(by rw [show own_ixx p1 [x0, x1, x2, x3] = own_ix4 p1 x0 x1 x2 x3 from rfl, own_ix4, if_pos hc19_13]; try rfl), N0, rfl⟩)
    · refine Goes.step (fun _ k => pw_icmpYes X0.here hx (pc' := 25) (hb hby d21_19) (feq hc19_13).2 (by decide) (by decide) _ (pw_iinc X0.here hx (l' := #[.val (.ref b1), .val (.int p1), .val (.int 0), .val (.int 4), .val (.int (p1.toInt8.toInt32)), .val (.int 1)]) (hb hby d21_25) rfl rfl _ (pw_goto X0.here hx (pc' := 7) (hb hby d21_28) (by decide) (by decide) _ (pw_iload X0.here hx (hb hby d21_7) rfl _ (pw_iloadN X0.here hx (hb hby d21_9) rfl _ (pw_icmpNo X0.here hx (hb hby d21_10) (tlt (by decide)).2.1 _ k)))))) ?_
      refine Goes.step (fun _ k => pw_aloadN X0.here hx (hb hby d21_13) rfl rfl _ (pw_iload X0.here hx (hb hby d21_14) rfl _ k)) ?_
      obtain ⟨c15, Ar15, -, Sz15, Nn15, Hs15, -⟩ := id V1
      have hin15 : ¬ ((1 : Int32) < 0 ∨ c15.slots.size ≤ ((1 : Int32)).toNatClampNeg) := inb_of Sz15 ⟨by decide, by decide⟩
      refine Goes.step (B := s₁.setTop (mkF m 17 #[.val (.ref b1), .val (.int p1), .val (.int 0), .val (.int 4), .val (.int (p1.toInt8.toInt32)), .val (.int 1)] [(.int x1)])) (X0.baloadBytes hx (j := (1 : Int32)) (v := (.int x1)) (by rw [e0]; exact Ar15.1) (State.isArrayOf_alike hZ.alike Ar15.2.1) Ar15.2.2 hin15 (Has.at Hs15 hin15 rfl) (g := (mkF m 16 #[.val (.ref b1), .val (.int p1), .val (.int 0), .val (.int 4), .val (.int (p1.toInt8.toInt32)), .val (.int 1)] [(.int 1), (.ref b1)])) rfl rfl (hb hby d21_16)) ?_
      refine Goes.step (fun _ k => pw_iload X0.here hx (hb hby d21_17) rfl _ k) ?_
      by_cases hc19_15 : x1 = (p1.toInt8.toInt32)
      · refine Goes.step (fun _ k => pw_icmpNo X0.here hx (hb hby d21_19) (teq hc19_15).2 _ (pw_iload X0.here hx (hb hby d21_22) rfl _ k)) ?_
        exact Goes.retI X0 hx e0 Bd.returns hlk (hb hby d21_24) (by decide) (by decide) (⟨(by rw [show own_ixx p1 [x0, x1, x2, x3] = own_ix4 p1 x0 x1 x2 x3 from rfl, own_ix4, if_neg hc19_13, if_pos hc19_15]; try rfl), N0, rfl⟩)
      · refine Goes.step (fun _ k => pw_icmpYes X0.here hx (pc' := 25) (hb hby d21_19) (feq hc19_15).2 (by decide) (by decide) _ (pw_iinc X0.here hx (l' := #[.val (.ref b1), .val (.int p1), .val (.int 0), .val (.int 4), .val (.int (p1.toInt8.toInt32)), .val (.int 2)]) (hb hby d21_25) rfl rfl _ (pw_goto X0.here hx (pc' := 7) (hb hby d21_28) (by decide) (by decide) _ (pw_iload X0.here hx (hb hby d21_7) rfl _ (pw_iloadN X0.here hx (hb hby d21_9) rfl _ (pw_icmpNo X0.here hx (hb hby d21_10) (tlt (by decide)).2.1 _ k)))))) ?_
        refine Goes.step (fun _ k => pw_aloadN X0.here hx (hb hby d21_13) rfl rfl _ (pw_iload X0.here hx (hb hby d21_14) rfl _ k)) ?_
        obtain ⟨c17, Ar17, -, Sz17, Nn17, Hs17, -⟩ := id V1
        have hin17 : ¬ ((2 : Int32) < 0 ∨ c17.slots.size ≤ ((2 : Int32)).toNatClampNeg) := inb_of Sz17 ⟨by decide, by decide⟩
        refine Goes.step (B := s₁.setTop (mkF m 17 #[.val (.ref b1), .val (.int p1), .val (.int 0), .val (.int 4), .val (.int (p1.toInt8.toInt32)), .val (.int 2)] [(.int x2)])) (X0.baloadBytes hx (j := (2 : Int32)) (v := (.int x2)) (by rw [e0]; exact Ar17.1) (State.isArrayOf_alike hZ.alike Ar17.2.1) Ar17.2.2 hin17 (Has.at Hs17 hin17 rfl) (g := (mkF m 16 #[.val (.ref b1), .val (.int p1), .val (.int 0), .val (.int 4), .val (.int (p1.toInt8.toInt32)), .val (.int 2)] [(.int 2), (.ref b1)])) rfl rfl (hb hby d21_16)) ?_
        refine Goes.step (fun _ k => pw_iload X0.here hx (hb hby d21_17) rfl _ k) ?_
        by_cases hc19_17 : x2 = (p1.toInt8.toInt32)
        · refine Goes.step (fun _ k => pw_icmpNo X0.here hx (hb hby d21_19) (teq hc19_17).2 _ (pw_iload X0.here hx (hb hby d21_22) rfl _ k)) ?_
          exact Goes.retI X0 hx e0 Bd.returns hlk (hb hby d21_24) (by decide) (by decide) (⟨(by rw [show own_ixx p1 [x0, x1, x2, x3] = own_ix4 p1 x0 x1 x2 x3 from rfl, own_ix4, if_neg hc19_13, if_neg hc19_15, if_pos hc19_17]; try rfl), N0, rfl⟩)
        · refine Goes.step (fun _ k => pw_icmpYes X0.here hx (pc' := 25) (hb hby d21_19) (feq hc19_17).2 (by decide) (by decide) _ (pw_iinc X0.here hx (l' := #[.val (.ref b1), .val (.int p1), .val (.int 0), .val (.int 4), .val (.int (p1.toInt8.toInt32)), .val (.int 3)]) (hb hby d21_25) rfl rfl _ (pw_goto X0.here hx (pc' := 7) (hb hby d21_28) (by decide) (by decide) _ (pw_iload X0.here hx (hb hby d21_7) rfl _ (pw_iloadN X0.here hx (hb hby d21_9) rfl _ (pw_icmpNo X0.here hx (hb hby d21_10) (tlt (by decide)).2.1 _ k)))))) ?_
          refine Goes.step (fun _ k => pw_aloadN X0.here hx (hb hby d21_13) rfl rfl _ (pw_iload X0.here hx (hb hby d21_14) rfl _ k)) ?_
          obtain ⟨c19, Ar19, -, Sz19, Nn19, Hs19, -⟩ := id V1
          have hin19 : ¬ ((3 : Int32) < 0 ∨ c19.slots.size ≤ ((3 : Int32)).toNatClampNeg) := inb_of Sz19 ⟨by decide, by decide⟩
          refine Goes.step (B := s₁.setTop (mkF m 17 #[.val (.ref b1), .val (.int p1), .val (.int 0), .val (.int 4), .val (.int (p1.toInt8.toInt32)), .val (.int 3)] [(.int x3)])) (X0.baloadBytes hx (j := (3 : Int32)) (v := (.int x3)) (by rw [e0]; exact Ar19.1) (State.isArrayOf_alike hZ.alike Ar19.2.1) Ar19.2.2 hin19 (Has.at Hs19 hin19 rfl) (g := (mkF m 16 #[.val (.ref b1), .val (.int p1), .val (.int 0), .val (.int 4), .val (.int (p1.toInt8.toInt32)), .val (.int 3)] [(.int 3), (.ref b1)])) rfl rfl (hb hby d21_16)) ?_
          refine Goes.step (fun _ k => pw_iload X0.here hx (hb hby d21_17) rfl _ k) ?_
          by_cases hc19_19 : x3 = (p1.toInt8.toInt32)
          · refine Goes.step (fun _ k => pw_icmpNo X0.here hx (hb hby d21_19) (teq hc19_19).2 _ (pw_iload X0.here hx (hb hby d21_22) rfl _ k)) ?_
            exact Goes.retI X0 hx e0 Bd.returns hlk (hb hby d21_24) (by decide) (by decide) (⟨(by rw [show own_ixx p1 [x0, x1, x2, x3] = own_ix4 p1 x0 x1 x2 x3 from rfl, own_ix4, if_neg hc19_13, if_neg hc19_15, if_neg hc19_17, if_pos hc19_19]; try rfl), N0, rfl⟩)
          · refine Goes.step (fun _ k => pw_icmpYes X0.here hx (pc' := 25) (hb hby d21_19) (feq hc19_19).2 (by decide) (by decide) _ (pw_iinc X0.here hx (l' := #[.val (.ref b1), .val (.int p1), .val (.int 0), .val (.int 4), .val (.int (p1.toInt8.toInt32)), .val (.int 4)]) (hb hby d21_25) rfl rfl _ (pw_goto X0.here hx (pc' := 7) (hb hby d21_28) (by decide) (by decide) _ (pw_iload X0.here hx (hb hby d21_7) rfl _ (pw_iloadN X0.here hx (hb hby d21_9) rfl _ (pw_icmpYes X0.here hx (pc' := 31) (hb hby d21_10) (flt (by decide)).2.1 (by decide) (by decide) _ k)))))) ?_
            refine Goes.step (fun _ k => pw_iconst X0.here hx (v := (-1 : Int32)) (hb hby d21_31) rfl _ k) ?_
            exact Goes.retI X0 hx e0 Bd.returns hlk (hb hby d21_32) (by decide) (by decide) (⟨(by rw [show own_ixx p1 [x0, x1, x2, x3] = own_ix4 p1 x0 x1 x2 x3 from rfl, own_ix4, if_neg hc19_13, if_neg hc19_15, if_neg hc19_17, if_neg hc19_19]; try rfl), N0, rfl⟩)
theorem d11_0 : decode jdk_43_method_22_code 0 = .ok (.iload_n 1, 1) := by decide +kernel
theorem d11_1 : decode jdk_43_method_22_code 1 = .ok (.invokestatic 88, 3) := by decide +kernel
theorem own_w61 {Z : State} {a0 : Array Value} (hw : ∀ d ∈ tables_1, d.before a0 Z = true) : (Jvm.Cond.methodLink "java/lang/StringLatin1" (88 : Nat) ({ cls := "java/lang/StringLatin1", name := "canEncode", desc := "(I)Z" } : Jvm.MethodName)).before a0 Z = true := hw _ (List.mem_of_getElem? (i := 61) rfl)
theorem own_w63 {Z : State} {a0 : Array Value} (hw : ∀ d ∈ tables_1, d.before a0 Z = true) : (Jvm.Cond.code ({ cls := "java/lang/StringLatin1", name := "canEncode", desc := "(I)Z" } : Jvm.MethodName) jdk_43_method_4_code (1 : Nat) (Option.some Jvm.ClassFile.FieldType.boolean)).before a0 Z = true := hw _ (List.mem_of_getElem? (i := 63) rfl)
theorem pd_16 : parseMethodDescriptor "(I)Z" = some ⟨[.int], some .boolean⟩ := by decide +kernel
theorem own_w62 {Z : State} {a0 : Array Value} (hw : ∀ d ∈ tables_1, d.before a0 Z = true) : (Jvm.Cond.static ({ cls := "java/lang/StringLatin1", name := "canEncode", desc := "(I)Z" } : Jvm.MethodName)).before a0 Z = true := hw _ (List.mem_of_getElem? (i := 62) rfl)
theorem d11_4 : decode jdk_43_method_22_code 4 = .ok (.ifCond .ne 5, 3) := by decide +kernel
theorem d11_9 : decode jdk_43_method_22_code 9 = .ok (.iload_n 2, 1) := by decide +kernel
theorem d11_10 : decode jdk_43_method_22_code 10 = .ok (.iconst 0, 1) := by decide +kernel
theorem d11_11 : decode jdk_43_method_22_code 11 = .ok (.invokestatic 92, 3) := by decide +kernel
theorem own_w64 {Z : State} {a0 : Array Value} (hw : ∀ d ∈ tables_1, d.before a0 Z = true) : (Jvm.Cond.methodLink "java/lang/StringLatin1" (92 : Nat) ({ cls := "java/lang/Math", name := "max", desc := "(II)I" } : Jvm.MethodName)).before a0 Z = true := hw _ (List.mem_of_getElem? (i := 64) rfl)
theorem own_w67 {Z : State} {a0 : Array Value} (hw : ∀ d ∈ tables_1, d.before a0 Z = true) : (Jvm.Cond.code ({ cls := "java/lang/Math", name := "max", desc := "(II)I" } : Jvm.MethodName) jdk_29_method_65_code (2 : Nat) (Option.some Jvm.ClassFile.FieldType.int)).before a0 Z = true := hw _ (List.mem_of_getElem? (i := 67) rfl)
theorem own_w65 {Z : State} {a0 : Array Value} (hw : ∀ d ∈ tables_1, d.before a0 Z = true) : (Jvm.Cond.static ({ cls := "java/lang/Math", name := "max", desc := "(II)I" } : Jvm.MethodName)).before a0 Z = true := hw _ (List.mem_of_getElem? (i := 65) rfl)
theorem d11_14 : decode jdk_43_method_22_code 14 = .ok (.istore_n 2, 1) := by decide +kernel
theorem d11_15 : decode jdk_43_method_22_code 15 = .ok (.iload_n 3, 1) := by decide +kernel
theorem d11_16 : decode jdk_43_method_22_code 16 = .ok (.aload_n 0, 1) := by decide +kernel
theorem d11_17 : decode jdk_43_method_22_code 17 = .ok (.arraylength, 1) := by decide +kernel
theorem d11_18 : decode jdk_43_method_22_code 18 = .ok (.invokestatic 38, 3) := by decide +kernel
theorem own_w68 {Z : State} {a0 : Array Value} (hw : ∀ d ∈ tables_1, d.before a0 Z = true) : (Jvm.Cond.methodLink "java/lang/StringLatin1" (38 : Nat) ({ cls := "java/lang/Math", name := "min", desc := "(II)I" } : Jvm.MethodName)).before a0 Z = true := hw _ (List.mem_of_getElem? (i := 68) rfl)
theorem d11_21 : decode jdk_43_method_22_code 21 = .ok (.istore_n 3, 1) := by decide +kernel
theorem d11_22 : decode jdk_43_method_22_code 22 = .ok (.iload_n 2, 1) := by decide +kernel
theorem d11_23 : decode jdk_43_method_22_code 23 = .ok (.iload_n 3, 1) := by decide +kernel
theorem d11_24 : decode jdk_43_method_22_code 24 = .ok (.if_icmp .lt 5, 3) := by decide +kernel
theorem d11_29 : decode jdk_43_method_22_code 29 = .ok (.aload_n 0, 1) := by decide +kernel
theorem d11_30 : decode jdk_43_method_22_code 30 = .ok (.iload_n 1, 1) := by decide +kernel
theorem d11_31 : decode jdk_43_method_22_code 31 = .ok (.iload_n 2, 1) := by decide +kernel
theorem d11_32 : decode jdk_43_method_22_code 32 = .ok (.iload_n 3, 1) := by decide +kernel
theorem d11_33 : decode jdk_43_method_22_code 33 = .ok (.invokestatic 95, 3) := by decide +kernel
theorem own_w93 {Z : State} {a0 : Array Value} (hw : ∀ d ∈ tables_1, d.before a0 Z = true) : (Jvm.Cond.methodLink "java/lang/StringLatin1" (95 : Nat) ({ cls := "java/lang/StringLatin1", name := "indexOfChar", desc := "([BIII)I" } : Jvm.MethodName)).before a0 Z = true := hw _ (List.mem_of_getElem? (i := 93) rfl)
theorem own_w95 {Z : State} {a0 : Array Value} (hw : ∀ d ∈ tables_1, d.before a0 Z = true) : (Jvm.Cond.code ({ cls := "java/lang/StringLatin1", name := "indexOfChar", desc := "([BIII)I" } : Jvm.MethodName) jdk_43_method_23_code (6 : Nat) (Option.some Jvm.ClassFile.FieldType.int)).before a0 Z = true := hw _ (List.mem_of_getElem? (i := 95) rfl)
theorem pd_17 : parseMethodDescriptor "([BIII)I" = some ⟨[(.array .byte), .int, .int, .int], some .int⟩ := by decide +kernel
theorem own_w94 {Z : State} {a0 : Array Value} (hw : ∀ d ∈ tables_1, d.before a0 Z = true) : (Jvm.Cond.static ({ cls := "java/lang/StringLatin1", name := "indexOfChar", desc := "([BIII)I" } : Jvm.MethodName)).before a0 Z = true := hw _ (List.mem_of_getElem? (i := 94) rfl)
theorem d11_36 : decode jdk_43_method_22_code 36 = .ok (.ireturn, 1) := by decide +kernel
theorem d11_27 : decode jdk_43_method_22_code 27 = .ok (.iconst (-1), 1) := by decide +kernel
theorem d11_28 : decode jdk_43_method_22_code 28 = .ok (.ireturn, 1) := by decide +kernel
theorem ef_rmIO (m : MethodId) (x0 : Addr) (x1 : Int32) (x2 : Int32) (x3 : Int32) : entryFrame m #[(.ref x0), (.int x1), (.int x2), (.int x3)] 4 = mkF m 0 #[.val (.ref x0), .val (.int x1), .val (.int x2), .val (.int x3)] [] := by first | (simp [entryFrame, mkF, argsToLocals, Value.category]; done) | rfl
def QIO (Z : State) (b1 : Addr) (k1 : ClassId) (z1 : Int32) (xs : List Int32) (p1 : Int32) (h0 : Heap) (n0 : Nat) (v : Option Value) (h : Heap) (L : List Loc) : Prop := v = some (.int (own_ixx p1 xs)) ∧ Fr n0 L ∧ h = h0
set_option maxRecDepth 65536 in
set_option maxHeartbeats 40000000 in
theorem rmIO (l : Launch) (Z : State) (a0 : Array Value) (hw : ∀ d ∈ tables_1, d.before a0 Z = true) (ws : List Jvm.Cond) (b1 : Addr) (k1 : ClassId) (z1 : Int32) (xs : List Int32) (p1 : Int32) (h0 : Heap) (n0 : Nat) (O0 : Old Z n0 h0) (V1 : Arv Z h0 b1 k1 .byte z1 (xs.map Value.int) (.int (0 : Int32))) (hzl : z1.toNatClampNeg = xs.length) (hz4 : z1.toInt ≤ 4) (hp0 : ¬ p1 < (0 : Int32)) (hp1 : ¬ (255 : Int32) < p1) :
    MetFree l (⟨"java/lang/StringLatin1", "indexOf", "([BIII)I"⟩ : MethodName) (head1 (Jvm.Cond.code (⟨"java/lang/StringLatin1", "indexOf", "([BIII)I"⟩ : MethodName) jdk_43_method_22_code 4 (some .int) :: ws) ({ frames := 1, cells := 0, slots := 0, locals := 17 } : Room)) (fun a U => a = #[(.ref b1), (.int p1), (.int 0), (.int z1)] ∧ Z.Warmed39 U.vm ∧ U.heap = h0) (fun _ _ _ _ _ => True) (fun _ U o U' => ∃ v L, o = .returned v ∧ QIO Z b1 k1 z1 xs p1 h0 n0 v U'.heap L ∧ FrameEnd U o U' L ({ frames := 1, cells := 0, slots := 0, locals := 17 } : Room).cells ({ frames := 1, cells := 0, slots := 0, locals := 17 } : Room).slots) := by
  refine MetFree.of_bodySF (plainFor_of_name pn_StringLatin1) hisR ?_
  intro p e s m args below meth c s₁ Bd hml0 hP hK
  obtain ⟨rfl, hZ, hh⟩ := hP
  have hx := Bd.exec
  have hby := Bd.bytes
  have hlk : meth.locks = false := BodyLoose.notSynchronized Bd
  have hml : c.maxLocals = 4 := hml0
  have hown : s.vm.findClass "java/lang/StringLatin1" = some m.cls := findClass_of_methodNamed Bd.named
  have hnm := (name_of_methodNamed Bd.named Bd.method).1
  have X0 : Stand p l e ({ frames := 1, cells := 0, slots := 0, locals := 17 } : Room) s m #[(.ref b1), (.int p1), (.int 0), (.int z1)] below meth c s₁ [] 0 0 := Stand.of_body Bd
  have e0 : s₁.heap = h0 := by rw [← hh, Bd.state]; rfl
  have N0 := Fr.nil n0
  show Goes p e below s (QIO Z b1 k1 z1 xs p1 h0 n0) ({ frames := 1, cells := 0, slots := 0, locals := 17 } : Room).cells ({ frames := 1, cells := 0, slots := 0, locals := 17 } : Room).slots (s₁.setTop (entryFrame m #[(.ref b1), (.int p1), (.int 0), (.int z1)] 4))
  refine Goes.enter (g' := (mkF m 0 #[.val (.ref b1), .val (.int p1), .val (.int 0), .val (.int z1)] [])) (ef_rmIO m b1 p1 ((0 : Int32)) z1) ?_
  refine Goes.step (fun _ k => pw_iloadN X0.here hx (hb hby d11_0) rfl _ k) ?_
  obtain ⟨_, _, ⟨T1, L1, k1, n1⟩, -, X1, ⟨Lc1, hQ1, l1, y1, z1⟩, st1⟩ := Jvm.LawKit.callS X0 hx (y := (⟨"java/lang/StringLatin1", "canEncode", "(I)Z"⟩ : MethodName)) hown (mvT hZ (own_w61 hw)) (mvT hZ (own_w62 hw)) (mvT hZ (own_w59 hw)) (mvT hZ (own_w63 hw)) (by decide) (backOf (W := 0) (rm12 l Z a0 hw [] p1 h0 n0 O0 hp0 hp1) hZ (own_w63 hw) (own_w59 hw) (by decide) (by decide)) (g := (mkF m 1 #[.val (.ref b1), .val (.int p1), .val (.int 0), .val (.int z1)] [(.int p1)])) rfl (by rw [hml]; rfl) (argsL := [(.int p1)]) (rest := []) (lenOf pd_16 rfl) rfl (by show 2 * 0 + _ ≤ _; exact Nat.le_of_eq rfl) (hb hby d11_1) (fun _ _ => ⟨rfl, e0, (by decide : 0 + 0 ≤ _), (by decide : 0 + 0 ≤ _)⟩)
  dsimp only [Pt.U, Pt.locs, Pt.cells, Pt.slots] at X1 l1 y1 z1 st1 hQ1
  subst l1 y1 z1
  obtain ⟨rfl, Nq1, eh1⟩ := hQ1
  have N1 := Fr.app N0 Nq1
  refine Goes.step (B := T1.setTop (mkF m 4 #[.val (.ref b1), .val (.int p1), .val (.int 0), .val (.int z1)] [(.int 1)])) st1 ?_
  refine Goes.step (fun _ k => pw_ifYes X1.here hx (pc' := 9) (hb hby d11_4) ((if0 _ _).trans (feq (by decide)).2) (by decide) (by decide) _ (pw_iloadN X1.here hx (hb hby d11_9) rfl _ (pw_iconst X1.here hx (v := (0 : Int32)) (hb hby d11_10) rfl _ k))) ?_
  obtain ⟨_, _, ⟨T2, L2, k2, n2⟩, -, X2, ⟨Lc2, hQ2, l2, y2, z2⟩, st2⟩ := Jvm.LawKit.callS X1 hx (y := (⟨"java/lang/Math", "max", "(II)I"⟩ : MethodName)) hown (mvT hZ (own_w64 hw)) (mvT hZ (own_w65 hw)) (mvT hZ (own_w66 hw)) (mvT hZ (own_w67 hw)) (by decide) (backOf (W := 0) (rm13 l Z a0 hw [] (0 : Int32) (0 : Int32) h0 n0 O0 ) hZ (own_w67 hw) (own_w66 hw) (by decide) (by decide)) (g := (mkF m 11 #[.val (.ref b1), .val (.int p1), .val (.int 0), .val (.int z1)] [(.int 0), (.int 0)])) rfl (by rw [hml]; rfl) (argsL := [(.int 0), (.int 0)]) (rest := []) (lenOf pd_10 rfl) rfl (by show 2 * 0 + _ ≤ _; exact Nat.le_of_eq rfl) (hb hby d11_11) (fun _ _ => ⟨rfl, eh1, (by decide : 0 + 0 ≤ _), (by decide : 0 + 0 ≤ _)⟩)
  dsimp only [Pt.U, Pt.locs, Pt.cells, Pt.slots] at X2 l2 y2 z2 st2 hQ2
  subst l2 y2 z2
  obtain ⟨rfl, Nq2, eh2⟩ := hQ2
  have N2 := Fr.app N1 Nq2
  refine Goes.step (B := T2.setTop (mkF m 14 #[.val (.ref b1), .val (.int p1), .val (.int 0), .val (.int z1)] [(.int (own_max (0 : Int32) (0 : Int32)))])) st2 ?_
  rw [(own_maxs _ : (own_max (0 : Int32) (0 : Int32)) = (0 : Int32))]
  refine Goes.step (fun _ k => pw_istoreN X2.here hx (l' := #[.val (.ref b1), .val (.int p1), .val (.int 0), .val (.int z1)]) (hb hby d11_14) rfl _ (pw_iloadN X2.here hx (hb hby d11_15) rfl _ (pw_aloadN X2.here hx (hb hby d11_16) rfl rfl _ k))) ?_
  obtain ⟨c3, Ar3, -, Sz3, Nn3, -, -⟩ := id V1
  have len3 := X2.arraylength hx (by rw [eh2]; exact Ar3.1) (State.isArrayOf_alike hZ.alike Ar3.2.1) (g := (mkF m 17 #[.val (.ref b1), .val (.int p1), .val (.int 0), .val (.int z1)] [(.ref b1), (.int z1)])) rfl rfl (hb hby d11_17)
  rw [len_of Sz3 Nn3] at len3
  refine Goes.step (B := T2.setTop (mkF m 18 #[.val (.ref b1), .val (.int p1), .val (.int 0), .val (.int z1)] [(.int z1), (.int z1)])) len3 ?_
  obtain ⟨_, _, ⟨T4, L4, k4, n4⟩, -, X4, ⟨Lc4, hQ4, l4, y4, z4⟩, st4⟩ := Jvm.LawKit.callS X2 hx (y := (⟨"java/lang/Math", "min", "(II)I"⟩ : MethodName)) hown (mvT hZ (own_w68 hw)) (mvT hZ (own_w69 hw)) (mvT hZ (own_w66 hw)) (mvT hZ (own_w70 hw)) (by decide) (backOf (W := 0) (rm14 l Z a0 hw [] z1 z1 h0 n0 O0 ) hZ (own_w70 hw) (own_w66 hw) (by decide) (by decide)) (g := (mkF m 18 #[.val (.ref b1), .val (.int p1), .val (.int 0), .val (.int z1)] [(.int z1), (.int z1)])) rfl (by rw [hml]; rfl) (argsL := [(.int z1), (.int z1)]) (rest := []) (lenOf pd_10 rfl) rfl (by show 2 * 0 + _ ≤ _; exact Nat.le_of_eq rfl) (hb hby d11_18) (fun _ _ => ⟨rfl, eh2, (by decide : 0 + 0 ≤ _), (by decide : 0 + 0 ≤ _)⟩)
  dsimp only [Pt.U, Pt.locs, Pt.cells, Pt.slots] at X4 l4 y4 z4 st4 hQ4
  subst l4 y4 z4
  obtain ⟨rfl, Nq4, eh4⟩ := hQ4
  have N4 := Fr.app N2 Nq4
  refine Goes.step (B := T4.setTop (mkF m 21 #[.val (.ref b1), .val (.int p1), .val (.int 0), .val (.int z1)] [(.int (own_min z1 z1))])) st4 ?_
  rw [(own_mnq (Int.le_refl _) : (own_min z1 z1) = z1)]
  refine Goes.step (fun _ k => pw_istoreN X4.here hx (l' := #[.val (.ref b1), .val (.int p1), .val (.int 0), .val (.int z1)]) (hb hby d11_21) rfl _ (pw_iloadN X4.here hx (hb hby d11_22) rfl _ (pw_iloadN X4.here hx (hb hby d11_23) rfl _ k))) ?_
  by_cases hc24_4 : (0 : Int32) < z1
  · refine Goes.step (fun _ k => pw_icmpYes X4.here hx (pc' := 29) (hb hby d11_24) (tlt hc24_4).1 (by decide) (by decide) _ (pw_aloadN X4.here hx (hb hby d11_29) rfl rfl _ (pw_iloadN X4.here hx (hb hby d11_30) rfl _ (pw_iloadN X4.here hx (hb hby d11_31) rfl _ (pw_iloadN X4.here hx (hb hby d11_32) rfl _ k))))) ?_
    obtain ⟨_, _, ⟨T6, L6, k6, n6⟩, -, X6, ⟨Lc6, hQ6, l6, y6, z6⟩, st6⟩ := Jvm.LawKit.callS X4 hx (y := (⟨"java/lang/StringLatin1", "indexOfChar", "([BIII)I"⟩ : MethodName)) hown (mvT hZ (own_w93 hw)) (mvT hZ (own_w94 hw)) (mvT hZ (own_w59 hw)) (mvT hZ (own_w95 hw)) (by decide) (backOf (W := 0) (rmIC l Z a0 hw [] b1 k1 z1 xs p1 h0 n0 O0 V1 hzl hz4) hZ (own_w95 hw) (own_w59 hw) (by decide) (by decide)) (g := (mkF m 33 #[.val (.ref b1), .val (.int p1), .val (.int 0), .val (.int z1)] [(.int z1), (.int 0), (.int p1), (.ref b1)])) rfl (by rw [hml]; rfl) (argsL := [(.ref b1), (.int p1), (.int 0), (.int z1)]) (rest := []) (lenOf pd_17 rfl) rfl (by show 2 * 0 + _ ≤ _; exact Nat.le_of_eq rfl) (hb hby d11_33) (fun _ _ => ⟨rfl, eh4, (by decide : 0 + 0 ≤ _), (by decide : 0 + 0 ≤ _)⟩)
    dsimp only [Pt.U, Pt.locs, Pt.cells, Pt.slots] at X6 l6 y6 z6 st6 hQ6
    subst l6 y6 z6
    obtain ⟨rfl, Nq6, eh6⟩ := hQ6
    have N6 := Fr.app N4 Nq6
    refine Goes.step (B := T6.setTop (mkF m 36 #[.val (.ref b1), .val (.int p1), .val (.int 0), .val (.int z1)] [(.int (own_ixx p1 xs))])) st6 ?_
    exact Goes.retI X6 hx eh6 Bd.returns hlk (hb hby d11_36) (by decide) (by decide) (⟨rfl, N6, rfl⟩)
  · refine Goes.step (fun _ k => pw_icmpNo X4.here hx (hb hby d11_24) (flt hc24_4).1 _ (pw_iconst X4.here hx (v := (-1 : Int32)) (hb hby d11_27) rfl _ k)) ?_
    exact Goes.retI X4 hx eh4 Bd.returns hlk (hb hby d11_28) (by decide) (by decide) (⟨(by rw [own_ixn p1 hzl hc24_4]), N4, rfl⟩)
theorem d7_0 : decode jdk_42_method_80_code 0 = .ok (.aload_n 0, 1) := by decide +kernel
theorem d7_1 : decode jdk_42_method_80_code 1 = .ok (.invokevirtual 492, 3) := by decide +kernel
theorem d7_4 : decode jdk_42_method_80_code 4 = .ok (.ifCond .eq 19, 3) := by decide +kernel
theorem d7_7 : decode jdk_42_method_80_code 7 = .ok (.aload_n 0, 1) := by decide +kernel
theorem d7_8 : decode jdk_42_method_80_code 8 = .ok (.getfield 9, 3) := by decide +kernel
theorem d7_11 : decode jdk_42_method_80_code 11 = .ok (.iload_n 1, 1) := by decide +kernel
theorem d7_12 : decode jdk_42_method_80_code 12 = .ok (.iload_n 2, 1) := by decide +kernel
theorem d7_13 : decode jdk_42_method_80_code 13 = .ok (.aload_n 0, 1) := by decide +kernel
theorem d7_14 : decode jdk_42_method_80_code 14 = .ok (.invokevirtual 505, 3) := by decide +kernel
theorem d7_17 : decode jdk_42_method_80_code 17 = .ok (.invokestatic 637, 3) := by decide +kernel
theorem own_w57 {Z : State} {a0 : Array Value} (hw : ∀ d ∈ tables_1, d.before a0 Z = true) : (Jvm.Cond.methodLink "java/lang/String" (637 : Nat) ({ cls := "java/lang/StringLatin1", name := "indexOf", desc := "([BIII)I" } : Jvm.MethodName)).before a0 Z = true := hw _ (List.mem_of_getElem? (i := 57) rfl)
theorem own_w60 {Z : State} {a0 : Array Value} (hw : ∀ d ∈ tables_1, d.before a0 Z = true) : (Jvm.Cond.code ({ cls := "java/lang/StringLatin1", name := "indexOf", desc := "([BIII)I" } : Jvm.MethodName) jdk_43_method_22_code (4 : Nat) (Option.some Jvm.ClassFile.FieldType.int)).before a0 Z = true := hw _ (List.mem_of_getElem? (i := 60) rfl)
theorem own_w58 {Z : State} {a0 : Array Value} (hw : ∀ d ∈ tables_1, d.before a0 Z = true) : (Jvm.Cond.static ({ cls := "java/lang/StringLatin1", name := "indexOf", desc := "([BIII)I" } : Jvm.MethodName)).before a0 Z = true := hw _ (List.mem_of_getElem? (i := 58) rfl)
theorem d7_20 : decode jdk_42_method_80_code 20 = .ok (.goto 16, 3) := by decide +kernel
theorem d7_36 : decode jdk_42_method_80_code 36 = .ok (.ireturn, 1) := by decide +kernel
theorem ef_rmIJ (m : MethodId) (x0 : Addr) (x1 : Int32) (x2 : Int32) : entryFrame m #[(.ref x0), (.int x1), (.int x2)] 3 = mkF m 0 #[.val (.ref x0), .val (.int x1), .val (.int x2)] [] := by first | (simp [entryFrame, mkF, argsToLocals, Value.category]; done) | rfl
def QIJ (Z : State) (a1 : Addr) (b1 : Addr) (k1 : ClassId) (z1 : Int32) (xs : List Int32) (cs : Int32) (p1 : Int32) (h0 : Heap) (n0 : Nat) (v : Option Value) (h : Heap) (L : List Loc) : Prop := v = some (.int (own_ixx p1 xs)) ∧ Fr n0 L ∧ h = h0
set_option maxRecDepth 65536 in
set_option maxHeartbeats 40000000 in
theorem rmIJ (l : Launch) (Z : State) (a0 : Array Value) (hw : ∀ d ∈ tables_1, d.before a0 Z = true) (ws : List Jvm.Cond) (a1 : Addr) (b1 : Addr) (k1 : ClassId) (z1 : Int32) (xs : List Int32) (cs : Int32) (p1 : Int32) (h0 : Heap) (n0 : Nat) (O0 : Old Z n0 h0) (Sc : Sta Z h0 "java/lang/String" "COMPACT_STRINGS" "Z" (.int cs)) (hcs : ¬ cs = (0 : Int32)) (E1 : Exa Z h0 a1 "java/lang/String") (Fc1 : Fld Z h0 a1 "java/lang/String" "coder" "B" (.int (0 : Int32))) (Fv1 : Fld Z h0 a1 "java/lang/String" "value" "[B" (.ref b1)) (V1 : Arv Z h0 b1 k1 .byte z1 (xs.map Value.int) (.int (0 : Int32))) (hzl : z1.toNatClampNeg = xs.length) (hz4 : z1.toInt ≤ 4) (hp0 : ¬ p1 < (0 : Int32)) (hp1 : ¬ (255 : Int32) < p1) :
    MetFree l (⟨"java/lang/String", "indexOf", "(II)I"⟩ : MethodName) (head1 (Jvm.Cond.code (⟨"java/lang/String", "indexOf", "(II)I"⟩ : MethodName) jdk_42_method_80_code 3 (some .int) :: ws) ({ frames := 2, cells := 0, slots := 0, locals := 32 } : Room)) (fun a U => a = #[(.ref a1), (.int p1), (.int 0)] ∧ Z.Warmed39 U.vm ∧ U.heap = h0) (fun _ _ _ _ _ => True) (fun _ U o U' => ∃ v L, o = .returned v ∧ QIJ Z a1 b1 k1 z1 xs cs p1 h0 n0 v U'.heap L ∧ FrameEnd U o U' L ({ frames := 2, cells := 0, slots := 0, locals := 32 } : Room).cells ({ frames := 2, cells := 0, slots := 0, locals := 32 } : Room).slots) := by
  refine MetFree.of_bodySF (plainFor_of_name pn_String) hisR ?_
  intro p e s m args below meth c s₁ Bd hml0 hP hK
  obtain ⟨rfl, hZ, hh⟩ := hP
  have hx := Bd.exec
  have hby := Bd.bytes
  have hlk : meth.locks = false := BodyLoose.notSynchronized Bd
  have hml : c.maxLocals = 3 := hml0
  have hown : s.vm.findClass "java/lang/String" = some m.cls := findClass_of_methodNamed Bd.named
  have hnm := (name_of_methodNamed Bd.named Bd.method).1
  have X0 : Stand p l e ({ frames := 2, cells := 0, slots := 0, locals := 32 } : Room) s m #[(.ref a1), (.int p1), (.int 0)] below meth c s₁ [] 0 0 := Stand.of_body Bd
  have e0 : s₁.heap = h0 := by rw [← hh, Bd.state]; rfl
  have N0 := Fr.nil n0
  show Goes p e below s (QIJ Z a1 b1 k1 z1 xs cs p1 h0 n0) ({ frames := 2, cells := 0, slots := 0, locals := 32 } : Room).cells ({ frames := 2, cells := 0, slots := 0, locals := 32 } : Room).slots (s₁.setTop (entryFrame m #[(.ref a1), (.int p1), (.int 0)] 3))
  refine Goes.enter (g' := (mkF m 0 #[.val (.ref a1), .val (.int p1), .val (.int 0)] [])) (ef_rmIJ m a1 p1 ((0 : Int32))) ?_
  refine Goes.step (fun _ k => pw_aloadN X0.here hx (hb hby d7_0) rfl rfl _ k) ?_
  obtain ⟨cq1, kq1, qa1, qb1, qc1⟩ := isOf hZ e0 E1
  obtain ⟨_, _, ⟨T1, L1, k1, n1⟩, -, X1, ⟨Lc1, hQ1, l1, y1, z1⟩, st1⟩ := X0.virtualBack hx (y := (⟨"java/lang/String", "isLatin1", "()Z"⟩ : MethodName)) (z := (⟨"java/lang/String", "isLatin1", "()Z"⟩ : MethodName)) hown (mvT hZ (own_w41 hw)) (mvT hZ (own_w42 hw)) (notFace_of_selects (args := #[]) (mvT hZ (own_w44 hw))) (mvT hZ (own_w44 hw)) (mvT hZ (own_w43 hw)) (by decide) (backOf (W := 0) (rm8 l Z a0 hw [] a1 b1 k1 z1 xs cs h0 n0 O0 Sc hcs E1 Fc1 Fv1 V1) hZ (own_w45 hw) (own_w8 hw) (by decide) (by decide)) qa1 qc1 (g := (mkF m 1 #[.val (.ref a1), .val (.int p1), .val (.int 0)] [(.ref a1)])) rfl (by rw [hml]; rfl) (Steps.refl _) (argsL := []) (rest := []) (lenOf pd_7 rfl) rfl (by show 2 * 0 + _ ≤ _; exact Nat.le_of_eq rfl) (hb hby d7_1) (fun _ _ => ⟨rfl, e0, (by decide : 0 + 0 ≤ _), (by decide : 0 + 0 ≤ _)⟩)
  dsimp only [Pt.U, Pt.locs, Pt.cells, Pt.slots] at X1 l1 y1 z1 st1 hQ1
  subst l1 y1 z1
  obtain ⟨rfl, Nq1, eh1⟩ := hQ1
  have N1 := Fr.app N0 Nq1
  refine Goes.via (B := T1.setTop (mkF m 4 #[.val (.ref a1), .val (.int p1), .val (.int 0)] [(.int 1)])) st1 ?_
  refine Goes.step (fun _ k => pw_ifNo X1.here hx (hb hby d7_4) ((if0 _ _).trans (feq (by decide)).1) _ (pw_aloadN X1.here hx (hb hby d7_7) rfl rfl _ k)) ?_
  obtain ⟨T2, X2, e2, st2⟩ := getF X1 hx hZ hown (host := "") (Or.inl (own_w25 hw)) Via.refl eh1 Fv1 (g := (mkF m 8 #[.val (.ref a1), .val (.int p1), .val (.int 0)] [(.ref a1)])) rfl rfl (hb hby d7_8)
  refine Goes.step (B := T2.setTop (mkF m 11 #[.val (.ref a1), .val (.int p1), .val (.int 0)] [(.ref b1)])) st2 ?_
  refine Goes.step (fun _ k => pw_iloadN X2.here hx (hb hby d7_11) rfl _ (pw_iloadN X2.here hx (hb hby d7_12) rfl _ (pw_aloadN X2.here hx (hb hby d7_13) rfl rfl _ k))) ?_
  obtain ⟨cq3, kq3, qa3, qb3, qc3⟩ := isOf hZ e2 E1
  obtain ⟨_, _, ⟨T3, L3, k3, n3⟩, -, X3, ⟨Lc3, hQ3, l3, y3, z3⟩, st3⟩ := X2.virtualBack hx (y := (⟨"java/lang/String", "length", "()I"⟩ : MethodName)) (z := (⟨"java/lang/String", "length", "()I"⟩ : MethodName)) hown (mvT hZ (own_w47 hw)) (mvT hZ (own_w48 hw)) (notFace_of_selects (args := #[]) (mvT hZ (own_w50 hw))) (mvT hZ (own_w50 hw)) (mvT hZ (own_w49 hw)) (by decide) (backOf (W := 3) (rm9 l Z a0 hw [] a1 b1 k1 z1 xs cs h0 n0 O0 Sc hcs E1 Fc1 Fv1 V1) hZ (own_w51 hw) (own_w8 hw) (by decide) (by decide)) qa3 qc3 (g := (mkF m 14 #[.val (.ref a1), .val (.int p1), .val (.int 0)] [(.ref a1), (.int 0), (.int p1), (.ref b1)])) rfl (by rw [hml]; rfl) (Steps.refl _) (argsL := []) (rest := [(.int 0), (.int p1), (.ref b1)]) (lenOf pd_13 rfl) rfl (by show 2 * 0 + _ ≤ _; exact Nat.le_of_eq rfl) (hb hby d7_14) (fun _ _ => ⟨rfl, e2, (by decide : 0 + 0 ≤ _), (by decide : 0 + 0 ≤ _)⟩)
  dsimp only [Pt.U, Pt.locs, Pt.cells, Pt.slots] at X3 l3 y3 z3 st3 hQ3
  subst l3 y3 z3
  obtain ⟨rfl, Nq3, eh3⟩ := hQ3
  have N3 := Fr.app N1 Nq3
  refine Goes.via (B := T3.setTop (mkF m 17 #[.val (.ref a1), .val (.int p1), .val (.int 0)] [(.int z1), (.int 0), (.int p1), (.ref b1)])) st3 ?_
  obtain ⟨_, _, ⟨T4, L4, k4, n4⟩, -, X4, ⟨Lc4, hQ4, l4, y4, z4⟩, st4⟩ := Jvm.LawKit.callS X3 hx (y := (⟨"java/lang/StringLatin1", "indexOf", "([BIII)I"⟩ : MethodName)) hown (mvT hZ (own_w57 hw)) (mvT hZ (own_w58 hw)) (mvT hZ (own_w59 hw)) (mvT hZ (own_w60 hw)) (by decide) (backOf (W := 0) (rmIO l Z a0 hw [] b1 k1 z1 xs p1 h0 n0 O0 V1 hzl hz4 hp0 hp1) hZ (own_w60 hw) (own_w59 hw) (by decide) (by decide)) (g := (mkF m 17 #[.val (.ref a1), .val (.int p1), .val (.int 0)] [(.int z1), (.int 0), (.int p1), (.ref b1)])) rfl (by rw [hml]; rfl) (argsL := [(.ref b1), (.int p1), (.int 0), (.int z1)]) (rest := []) (lenOf pd_17 rfl) rfl (by show 2 * 0 + _ ≤ _; exact Nat.le_of_eq rfl) (hb hby d7_17) (fun _ _ => ⟨rfl, eh3, (by decide : 0 + 0 ≤ _), (by decide : 0 + 0 ≤ _)⟩)
  dsimp only [Pt.U, Pt.locs, Pt.cells, Pt.slots] at X4 l4 y4 z4 st4 hQ4
  subst l4 y4 z4
  obtain ⟨rfl, Nq4, eh4⟩ := hQ4
  have N4 := Fr.app N3 Nq4
  refine Goes.step (B := T4.setTop (mkF m 20 #[.val (.ref a1), .val (.int p1), .val (.int 0)] [(.int (own_ixx p1 xs))])) st4 ?_
  refine Goes.step (fun _ k => pw_goto X4.here hx (pc' := 36) (hb hby d7_20) (by decide) (by decide) _ k) ?_
  exact Goes.retI X4 hx eh4 Bd.returns hlk (hb hby d7_36) (by decide) (by decide) (⟨rfl, N4, rfl⟩)
theorem d6_0 : decode jdk_42_method_79_code 0 = .ok (.aload_n 0, 1) := by decide +kernel
theorem d6_1 : decode jdk_42_method_79_code 1 = .ok (.iload_n 1, 1) := by decide +kernel
theorem d6_2 : decode jdk_42_method_79_code 2 = .ok (.iconst 0, 1) := by decide +kernel
theorem d6_3 : decode jdk_42_method_79_code 3 = .ok (.invokevirtual 633, 3) := by decide +kernel
theorem own_w36 {Z : State} {a0 : Array Value} (hw : ∀ d ∈ tables_1, d.before a0 Z = true) : (Jvm.Cond.methodLink "java/lang/String" (633 : Nat) ({ cls := "java/lang/String", name := "indexOf", desc := "(II)I" } : Jvm.MethodName)).before a0 Z = true := hw _ (List.mem_of_getElem? (i := 36) rfl)
theorem own_w40 {Z : State} {a0 : Array Value} (hw : ∀ d ∈ tables_1, d.before a0 Z = true) : (Jvm.Cond.code ({ cls := "java/lang/String", name := "indexOf", desc := "(II)I" } : Jvm.MethodName) jdk_42_method_80_code (3 : Nat) (Option.some Jvm.ClassFile.FieldType.int)).before a0 Z = true := hw _ (List.mem_of_getElem? (i := 40) rfl)
theorem own_w39 {Z : State} {a0 : Array Value} (hw : ∀ d ∈ tables_1, d.before a0 Z = true) : (Jvm.Cond.selects "java/lang/String" ({ cls := "java/lang/String", name := "indexOf", desc := "(II)I" } : Jvm.MethodName) ({ cls := "java/lang/String", name := "indexOf", desc := "(II)I" } : Jvm.MethodName)).before a0 Z = true := hw _ (List.mem_of_getElem? (i := 39) rfl)
theorem own_w37 {Z : State} {a0 : Array Value} (hw : ∀ d ∈ tables_1, d.before a0 Z = true) : (Jvm.Cond.declares ({ cls := "java/lang/String", name := "indexOf", desc := "(II)I" } : Jvm.MethodName)).before a0 Z = true := hw _ (List.mem_of_getElem? (i := 37) rfl)
theorem own_w38 {Z : State} {a0 : Array Value} (hw : ∀ d ∈ tables_1, d.before a0 Z = true) : (Jvm.Cond.instanceMethod ({ cls := "java/lang/String", name := "indexOf", desc := "(II)I" } : Jvm.MethodName)).before a0 Z = true := hw _ (List.mem_of_getElem? (i := 38) rfl)
theorem d6_6 : decode jdk_42_method_79_code 6 = .ok (.ireturn, 1) := by decide +kernel
theorem ef_rmIK (m : MethodId) (x0 : Addr) (x1 : Int32) : entryFrame m #[(.ref x0), (.int x1)] 2 = mkF m 0 #[.val (.ref x0), .val (.int x1)] [] := by first | (simp [entryFrame, mkF, argsToLocals, Value.category]; done) | rfl
def QIK (Z : State) (a1 : Addr) (b1 : Addr) (k1 : ClassId) (z1 : Int32) (xs : List Int32) (cs : Int32) (p1 : Int32) (h0 : Heap) (n0 : Nat) (v : Option Value) (h : Heap) (L : List Loc) : Prop := v = some (.int (own_ixx p1 xs)) ∧ Fr n0 L ∧ h = h0
set_option maxRecDepth 65536 in
set_option maxHeartbeats 40000000 in
theorem rmIK (l : Launch) (Z : State) (a0 : Array Value) (hw : ∀ d ∈ tables_1, d.before a0 Z = true) (ws : List Jvm.Cond) (a1 : Addr) (b1 : Addr) (k1 : ClassId) (z1 : Int32) (xs : List Int32) (cs : Int32) (p1 : Int32) (h0 : Heap) (n0 : Nat) (O0 : Old Z n0 h0) (Sc : Sta Z h0 "java/lang/String" "COMPACT_STRINGS" "Z" (.int cs)) (hcs : ¬ cs = (0 : Int32)) (E1 : Exa Z h0 a1 "java/lang/String") (Fc1 : Fld Z h0 a1 "java/lang/String" "coder" "B" (.int (0 : Int32))) (Fv1 : Fld Z h0 a1 "java/lang/String" "value" "[B" (.ref b1)) (V1 : Arv Z h0 b1 k1 .byte z1 (xs.map Value.int) (.int (0 : Int32))) (hzl : z1.toNatClampNeg = xs.length) (hz4 : z1.toInt ≤ 4) (hp0 : ¬ p1 < (0 : Int32)) (hp1 : ¬ (255 : Int32) < p1) :
    MetFree l (⟨"java/lang/String", "indexOf", "(I)I"⟩ : MethodName) (head1 (Jvm.Cond.code (⟨"java/lang/String", "indexOf", "(I)I"⟩ : MethodName) jdk_42_method_79_code 2 (some .int) :: ws) ({ frames := 3, cells := 0, slots := 0, locals := 46 } : Room)) (fun a U => a = #[(.ref a1), (.int p1)] ∧ Z.Warmed39 U.vm ∧ U.heap = h0) (fun _ _ _ _ _ => True) (fun _ U o U' => ∃ v L, o = .returned v ∧ QIK Z a1 b1 k1 z1 xs cs p1 h0 n0 v U'.heap L ∧ FrameEnd U o U' L ({ frames := 3, cells := 0, slots := 0, locals := 46 } : Room).cells ({ frames := 3, cells := 0, slots := 0, locals := 46 } : Room).slots) := by
  refine MetFree.of_bodySF (plainFor_of_name pn_String) hisR ?_
  intro p e s m args below meth c s₁ Bd hml0 hP hK
  obtain ⟨rfl, hZ, hh⟩ := hP
  have hx := Bd.exec
  have hby := Bd.bytes
  have hlk : meth.locks = false := BodyLoose.notSynchronized Bd
  have hml : c.maxLocals = 2 := hml0
  have hown : s.vm.findClass "java/lang/String" = some m.cls := findClass_of_methodNamed Bd.named
  have hnm := (name_of_methodNamed Bd.named Bd.method).1
  have X0 : Stand p l e ({ frames := 3, cells := 0, slots := 0, locals := 46 } : Room) s m #[(.ref a1), (.int p1)] below meth c s₁ [] 0 0 := Stand.of_body Bd
  have e0 : s₁.heap = h0 := by rw [← hh, Bd.state]; rfl
  have N0 := Fr.nil n0
  show Goes p e below s (QIK Z a1 b1 k1 z1 xs cs p1 h0 n0) ({ frames := 3, cells := 0, slots := 0, locals := 46 } : Room).cells ({ frames := 3, cells := 0, slots := 0, locals := 46 } : Room).slots (s₁.setTop (entryFrame m #[(.ref a1), (.int p1)] 2))
  refine Goes.enter (g' := (mkF m 0 #[.val (.ref a1), .val (.int p1)] [])) (ef_rmIK m a1 p1) ?_
  refine Goes.step (fun _ k => pw_aloadN X0.here hx (hb hby d6_0) rfl rfl _ (pw_iloadN X0.here hx (hb hby d6_1) rfl _ (pw_iconst X0.here hx (v := (0 : Int32)) (hb hby d6_2) rfl _ k))) ?_
  obtain ⟨cq1, kq1, qa1, qb1, qc1⟩ := isOf hZ e0 E1
  obtain ⟨_, _, ⟨T1, L1, k1, n1⟩, -, X1, ⟨Lc1, hQ1, l1, y1, z1⟩, st1⟩ := X0.virtualBack hx (y := (⟨"java/lang/String", "indexOf", "(II)I"⟩ : MethodName)) (z := (⟨"java/lang/String", "indexOf", "(II)I"⟩ : MethodName)) hown (mvT hZ (own_w36 hw)) (mvT hZ (own_w37 hw)) (notFace_of_selects (args := #[]) (mvT hZ (own_w39 hw))) (mvT hZ (own_w39 hw)) (mvT hZ (own_w38 hw)) (by decide) (backOf (W := 0) (rmIJ l Z a0 hw [] a1 b1 k1 z1 xs cs p1 h0 n0 O0 Sc hcs E1 Fc1 Fv1 V1 hzl hz4 hp0 hp1) hZ (own_w40 hw) (own_w8 hw) (by decide) (by decide)) qa1 qc1 (g := (mkF m 3 #[.val (.ref a1), .val (.int p1)] [(.int 0), (.int p1), (.ref a1)])) rfl (by rw [hml]; rfl) (Steps.refl _) (argsL := [(.int p1), (.int 0)]) (rest := []) (lenOf pd_10 rfl) rfl (by show 2 * 0 + _ ≤ _; exact Nat.le_of_eq rfl) (hb hby d6_3) (fun _ _ => ⟨rfl, e0, (by decide : 0 + 0 ≤ _), (by decide : 0 + 0 ≤ _)⟩)
  dsimp only [Pt.U, Pt.locs, Pt.cells, Pt.slots] at X1 l1 y1 z1 st1 hQ1
  subst l1 y1 z1
  obtain ⟨rfl, Nq1, eh1⟩ := hQ1
  have N1 := Fr.app N0 Nq1
  refine Goes.via (B := T1.setTop (mkF m 6 #[.val (.ref a1), .val (.int p1)] [(.int (own_ixx p1 xs))])) st1 ?_
  exact Goes.retI X1 hx eh1 Bd.returns hlk (hb hby d6_6) (by decide) (by decide) (⟨rfl, N1, rfl⟩)
theorem d16_53 : decode jdk_43_method_36_code 53 = .ok (.iload_n 2, 1) := by decide +kernel
theorem d16_54 : decode jdk_43_method_36_code 54 = .ok (.ifCond .gt 9, 3) := by decide +kernel
theorem d16_63 : decode jdk_43_method_36_code 63 = .ok (.aload_n 0, 1) := by decide +kernel
theorem d16_64 : decode jdk_43_method_36_code 64 = .ok (.iload_n 2, 1) := by decide +kernel
theorem d16_65 : decode jdk_43_method_36_code 65 = .ok (.iload_n 1, 1) := by decide +kernel
theorem d16_66 : decode jdk_43_method_36_code 66 = .ok (.iload_n 2, 1) := by decide +kernel
theorem d16_67 : decode jdk_43_method_36_code 67 = .ok (.isub, 1) := by decide +kernel
theorem d16_68 : decode jdk_43_method_36_code 68 = .ok (.invokestatic 210, 3) := by decide +kernel
theorem own_w113 {Z : State} {a0 : Array Value} (hw : ∀ d ∈ tables_1, d.before a0 Z = true) : (Jvm.Cond.methodLink "java/lang/StringLatin1" (210 : Nat) ({ cls := "java/lang/StringLatin1", name := "newString", desc := "([BII)Ljava/lang/String;" } : Jvm.MethodName)).before a0 Z = true := hw _ (List.mem_of_getElem? (i := 113) rfl)
theorem d16_71 : decode jdk_43_method_36_code 71 = .ok (.goto 4, 3) := by decide +kernel
theorem d16_75 : decode jdk_43_method_36_code 75 = .ok (.areturn, 1) := by decide +kernel
theorem d16_57 : decode jdk_43_method_36_code 57 = .ok (.iload_n 1, 1) := by decide +kernel
theorem d16_58 : decode jdk_43_method_36_code 58 = .ok (.aload_n 0, 1) := by decide +kernel
theorem d16_59 : decode jdk_43_method_36_code 59 = .ok (.arraylength, 1) := by decide +kernel
theorem d16_60 : decode jdk_43_method_36_code 60 = .ok (.if_icmp .ge 14, 3) := by decide +kernel
theorem d16_74 : decode jdk_43_method_36_code 74 = .ok (.aconst_null, 1) := by decide +kernel
theorem d16_0 : decode jdk_43_method_36_code 0 = .ok (.aload_n 0, 1) := by decide +kernel
theorem d16_1 : decode jdk_43_method_36_code 1 = .ok (.arraylength, 1) := by decide +kernel
theorem d16_2 : decode jdk_43_method_36_code 2 = .ok (.istore_n 1, 1) := by decide +kernel
theorem d16_3 : decode jdk_43_method_36_code 3 = .ok (.iconst 0, 1) := by decide +kernel
theorem d16_4 : decode jdk_43_method_36_code 4 = .ok (.istore_n 2, 1) := by decide +kernel
theorem d16_5 : decode jdk_43_method_36_code 5 = .ok (.iload_n 2, 1) := by decide +kernel
theorem d16_6 : decode jdk_43_method_36_code 6 = .ok (.iload_n 1, 1) := by decide +kernel
theorem d16_7 : decode jdk_43_method_36_code 7 = .ok (.if_icmp .ge 21, 3) := by decide +kernel
theorem d16_28 : decode jdk_43_method_36_code 28 = .ok (.iload_n 2, 1) := by decide +kernel
theorem d16_29 : decode jdk_43_method_36_code 29 = .ok (.iload_n 1, 1) := by decide +kernel
theorem d16_30 : decode jdk_43_method_36_code 30 = .ok (.if_icmp .ge 23, 3) := by decide +kernel
theorem d16_10 : decode jdk_43_method_36_code 10 = .ok (.aload_n 0, 1) := by decide +kernel
theorem d16_11 : decode jdk_43_method_36_code 11 = .ok (.iload_n 2, 1) := by decide +kernel
theorem d16_12 : decode jdk_43_method_36_code 12 = .ok (.baload, 1) := by decide +kernel
theorem d16_13 : decode jdk_43_method_36_code 13 = .ok (.sipush 255, 3) := by decide +kernel
theorem d16_16 : decode jdk_43_method_36_code 16 = .ok (.iand, 1) := by decide +kernel
theorem d16_17 : decode jdk_43_method_36_code 17 = .ok (.bipush 32, 2) := by decide +kernel
theorem d16_19 : decode jdk_43_method_36_code 19 = .ok (.if_icmp .gt 9, 3) := by decide +kernel
theorem d16_33 : decode jdk_43_method_36_code 33 = .ok (.aload_n 0, 1) := by decide +kernel
theorem d16_34 : decode jdk_43_method_36_code 34 = .ok (.iload_n 1, 1) := by decide +kernel
theorem d16_35 : decode jdk_43_method_36_code 35 = .ok (.iconst 1, 1) := by decide +kernel
theorem d16_36 : decode jdk_43_method_36_code 36 = .ok (.isub, 1) := by decide +kernel
theorem d16_37 : decode jdk_43_method_36_code 37 = .ok (.baload, 1) := by decide +kernel
theorem d16_38 : decode jdk_43_method_36_code 38 = .ok (.sipush 255, 3) := by decide +kernel
theorem d16_41 : decode jdk_43_method_36_code 41 = .ok (.iand, 1) := by decide +kernel
theorem d16_42 : decode jdk_43_method_36_code 42 = .ok (.bipush 32, 2) := by decide +kernel
theorem d16_44 : decode jdk_43_method_36_code 44 = .ok (.if_icmp .gt 9, 3) := by decide +kernel
theorem d16_22 : decode jdk_43_method_36_code 22 = .ok (.iinc 2 1, 3) := by decide +kernel
theorem d16_25 : decode jdk_43_method_36_code 25 = .ok (.goto (-20), 3) := by decide +kernel
theorem d16_47 : decode jdk_43_method_36_code 47 = .ok (.iinc 1 (-1), 3) := by decide +kernel
theorem d16_50 : decode jdk_43_method_36_code 50 = .ok (.goto (-22), 3) := by decide +kernel
theorem ef_rmTR (m : MethodId) (x0 : Addr) : entryFrame m #[(.ref x0)] 3 = mkF m 0 #[.val (.ref x0), .unset, .unset] [] := by first | (simp [entryFrame, mkF, argsToLocals, Value.category]; done) | rfl
def QTR (Z : State) (b1 : Addr) (k1 : ClassId) (z1 : Int32) (xs : List Int32) (h0 : Heap) (n0 : Nat) (v : Option Value) (h : Heap) (L : List Loc) : Prop := ∃ (wv : Value), v = some wv ∧ Fr n0 L ∧ Keep h0 h [] ∧ (wv = .null ∧ own_lo xs = (0 : Int32) ∧ own_hi xs = z1 ∨ ∃ (r vb : Addr) (kv : ClassId) (mm : Int32), wv = .ref r ∧ mm = own_hi xs - own_lo xs ∧ Exa Z h r "java/lang/String" ∧ Fld Z h r "java/lang/String" "value" "[B" (.ref vb) ∧ Fld Z h r "java/lang/String" "coder" "B" (.int (0 : Int32)) ∧ Arv Z h vb kv .byte mm ((own_sub xs (own_lo xs) mm).map Value.int) (.int (0 : Int32)))
set_option maxRecDepth 65536 in
set_option maxHeartbeats 40000000 in
theorem rmTR (l : Launch) (Z : State) (a0 : Array Value) (hw : ∀ d ∈ tables_1, d.before a0 Z = true) (ws : List Jvm.Cond) (b1 : Addr) (k1 : ClassId) (z1 : Int32) (xs : List Int32) (h0 : Heap) (n0 : Nat) (O0 : Old Z n0 h0) (V1 : Arv Z h0 b1 k1 .byte z1 (xs.map Value.int) (.int (0 : Int32))) (hzl : z1.toNatClampNeg = xs.length) (hz4 : z1.toInt ≤ 4) :
    MetFree l (⟨"java/lang/StringLatin1", "trim", "([B)Ljava/lang/String;"⟩ : MethodName) (head1 (Jvm.Cond.code (⟨"java/lang/StringLatin1", "trim", "([B)Ljava/lang/String;"⟩ : MethodName) jdk_43_method_36_code 3 (some (.object "java/lang/String")) :: ws) ({ frames := 4, cells := 2, slots := 9, locals := 64 } : Room)) (fun a U => a = #[(.ref b1)] ∧ Z.Warmed39 U.vm ∧ U.heap = h0 ∧ CHv Z own_EL U.vm h0) (fun _ _ _ _ _ => True) (fun _ U o U' => ∃ v L, o = .returned v ∧ QTR Z b1 k1 z1 xs h0 n0 v U'.heap L ∧ CHr Z own_EL U.vm U.heap U'.vm U'.heap ∧ ReturnedEndW U o U' L ({ frames := 4, cells := 2, slots := 9, locals := 64 } : Room).cells ({ frames := 4, cells := 2, slots := 9, locals := 64 } : Room).slots) := by
  refine MetFree.of_bodySF (plainFor_of_name pn_StringLatin1) hisR ?_
  intro p e s m args below meth c s₁ Bd hml0 hP hK
  obtain ⟨rfl, hZ, hh, hH0⟩ := hP
  have hx := Bd.exec
  have hby := Bd.bytes
  have hlk : meth.locks = false := BodyLoose.notSynchronized Bd
  have hml : c.maxLocals = 3 := hml0
  have hown : s.vm.findClass "java/lang/StringLatin1" = some m.cls := findClass_of_methodNamed Bd.named
  have hnm := (name_of_methodNamed Bd.named Bd.method).1
  have X0 : Stand p l e ({ frames := 4, cells := 2, slots := 9, locals := 64 } : Room) (s.setVm s.vm) m #[(.ref b1)] below meth c s₁ [] 0 0 := Stand.of_body Bd
  have e0 : s₁.heap = h0 := by rw [← hh, Bd.state]; rfl
  have N0 := Fr.nil n0
  have hS0 : s.Since s.vm h0.size := (State.WarmedH.refl s).since _
  show GoesH p e below s Z own_EL (QTR Z b1 k1 z1 xs h0 n0) ({ frames := 4, cells := 2, slots := 9, locals := 64 } : Room).cells ({ frames := 4, cells := 2, slots := 9, locals := 64 } : Room).slots (s₁.setTop (entryFrame m #[(.ref b1)] 3))
  refine GoesH.enter (g' := (mkF m 0 #[.val (.ref b1), .unset, .unset] [])) (ef_rmTR m b1) ?_
  have hz0 : ¬ z1 < 0 := by obtain ⟨_, _, _, _, q, _⟩ := id V1; exact q
  have hlh := own_lhb hzl hz4 hz0
  have J1 : ∀ (hi : Int32) (lo : Int32), lo = own_lo xs ∧ hi = own_hi xs → GoesH p e below s Z own_EL (QTR Z b1 k1 z1 xs h0 n0) ({ frames := 4, cells := 2, slots := 9, locals := 64 } : Room).cells ({ frames := 4, cells := 2, slots := 9, locals := 64 } : Room).slots (s₁.setTop (mkF m 53 #[.val (.ref b1), .val (.int hi), .val (.int lo)] [])) := by
   intro hi lo hhi
   have hb0 : 0 ≤ lo.toInt := by rw [hhi.1]; exact hlh.1
   have hbh : lo.toInt ≤ hi.toInt := by rw [hhi.1, hhi.2]; exact hlh.2.1
   have hhz : hi.toInt ≤ z1.toInt := by rw [hhi.2]; exact hlh.2.2
   refine GoesH.step (fun _ k => pw_iloadN X0.here hx (hb hby d16_53) rfl _ k) ?_
   by_cases hc54_1 : (0 : Int32) < lo
   · refine GoesH.step (fun _ k => pw_ifYes X0.here hx (pc' := 63) (hb hby d16_54) ((if0 _ _).trans (tlt hc54_1).2.2.1) (by decide) (by decide) _ (pw_aloadN X0.here hx (hb hby d16_63) rfl rfl _ (pw_iloadN X0.here hx (hb hby d16_64) rfl _ (pw_iloadN X0.here hx (hb hby d16_65) rfl _ (pw_iloadN X0.here hx (hb hby d16_66) rfl _ (pw_isub X0.here hx (hb hby d16_67) _ k)))))) ?_
     obtain ⟨mm, hmm⟩ : ∃ z, z = (hi - lo) := ⟨_, rfl⟩
     rw [← hmm]
     have tm := own_dif hmm hb0 hbh
     have hnn : ¬ (lo = (0 : Int32) ∧ mm = z1) := (fun q => absurd q.1 (own_ne0 (by have q := own_lt0 hc54_1; rw [own_i0] at q; exact q)))
     obtain ⟨_, vw3, ⟨T3, L3, k3, n3⟩, -, Xr3, S23, sz3, ⟨Lc3, hQ3, l3, y3, z3, Hc3⟩, st3⟩ := callSS X0 hx (y := (⟨"java/lang/StringLatin1", "newString", "([BII)Ljava/lang/String;"⟩ : MethodName)) hown (mvT hZ (own_w113 hw)) (mvT hZ (own_w110 hw)) (mvT hZ (own_w59 hw)) (mvT hZ (own_w111 hw)) (by decide) (backOfSH (W := 0) (rmNS l Z a0 hw [] b1 k1 z1 xs lo mm h0 n0 O0 V1 hb0 (by omega) (by omega) (by omega) hnn) hZ (own_w111 hw) (own_w59 hw) (by decide) (by decide) (own_EW hw) (CHr.refl hH0).1) (g := (mkF m 68 #[.val (.ref b1), .val (.int hi), .val (.int lo)] [(.int mm), (.int lo), (.ref b1)])) rfl (by rw [hml]; rfl) (argsL := [(.ref b1), (.int lo), (.int mm)]) (rest := []) (lenOf pd_15 rfl) rfl (by show 2 * 0 + _ ≤ _; exact Nat.le_of_eq rfl) (hb hby d16_68) (fun _ _ => ⟨rfl, e0, (by decide : 0 + 2 ≤ _), (by decide : 0 + 9 ≤ _)⟩)
     dsimp only [Pt.U, Pt.locs, Pt.cells, Pt.slots] at Xr3 S23 sz3 l3 y3 z3 st3 hQ3 Hc3
     subst l3 y3 z3
     obtain ⟨X3, hS3, hZ3, hown3⟩ := rebS hS0 (by rw [e0]; exact (Nat.le_refl _)) Xr3 S23 sz3 hZ hown
     have CHc3 := (CHr.refl hH0).trans Hc3
     obtain ⟨nr3, nv3, nk3, rfl, Nq3, Kp3, Er3, Fv3, Fc3, Vr3⟩ := hQ3
     have O_3 := O0.keep Kp3 all0
     have K_3 := (Keep.refl h0 []).trans Kp3 all0
     have N3 := Fr.app N0 Nq3
     refine GoesH.via (B := T3.setTop (mkF m 71 #[.val (.ref b1), .val (.int hi), .val (.int lo)] [(.ref nr3)])) st3 ?_
     refine GoesH.step (fun _ k => pw_goto X3.here hx (pc' := 75) (hb hby d16_71) (by decide) (by decide) _ k) ?_
     exact GoesH.retA X3 hS3 (Nat.le_refl _) hZ3 (own_EW hw) (by rw [show s.heap = h0 from hh]; exact CHc3) hx rfl Bd.returns rfl rfl hlk (hb hby d16_75) (by decide) (by decide) (⟨.ref nr3, rfl, N3, K_3, Or.inr ⟨nr3, nv3, nk3, mm, rfl, (by rw [← hhi.1, ← hhi.2]; exact hmm), Er3, Fv3, Fc3, (by rw [← hhi.1]; exact Vr3)⟩⟩)
   · refine GoesH.step (fun _ k => pw_ifNo X0.here hx (hb hby d16_54) ((if0 _ _).trans (flt hc54_1).2.2.1) _ (pw_iloadN X0.here hx (hb hby d16_57) rfl _ (pw_aloadN X0.here hx (hb hby d16_58) rfl rfl _ k))) ?_
     obtain ⟨c4, Ar4, -, Sz4, Nn4, -, -⟩ := id V1
     have len4 := X0.arraylength hx (by rw [e0]; exact Ar4.1) (State.isArrayOf_alike hZ.alike Ar4.2.1) (g := (mkF m 59 #[.val (.ref b1), .val (.int hi), .val (.int lo)] [(.ref b1), (.int hi)])) rfl rfl (hb hby d16_59)
     rw [len_of Sz4 Nn4] at len4
     refine GoesH.step (B := s₁.setTop (mkF m 60 #[.val (.ref b1), .val (.int hi), .val (.int lo)] [(.int z1), (.int hi)])) len4 ?_
     by_cases hc60_4 : hi < z1
     · refine GoesH.step (fun _ k => pw_icmpNo X0.here hx (hb hby d16_60) (tlt hc60_4).2.1 _ (pw_aloadN X0.here hx (hb hby d16_63) rfl rfl _ (pw_iloadN X0.here hx (hb hby d16_64) rfl _ (pw_iloadN X0.here hx (hb hby d16_65) rfl _ (pw_iloadN X0.here hx (hb hby d16_66) rfl _ (pw_isub X0.here hx (hb hby d16_67) _ k)))))) ?_
       obtain ⟨mm, hmm⟩ : ∃ z, z = (hi - lo) := ⟨_, rfl⟩
       rw [← hmm]
       have tm := own_dif hmm hb0 hbh
       have hnn : ¬ (lo = (0 : Int32) ∧ mm = z1) := (fun q => absurd (own_lt0 hc60_4) (by have q1 := q.1; have q2 := q.2; rw [q1, own_i0] at tm; rw [q2] at tm; omega))
       obtain ⟨_, vw6, ⟨T6, L6, k6, n6⟩, -, Xr6, S26, sz6, ⟨Lc6, hQ6, l6, y6, z6, Hc6⟩, st6⟩ := callSS X0 hx (y := (⟨"java/lang/StringLatin1", "newString", "([BII)Ljava/lang/String;"⟩ : MethodName)) hown (mvT hZ (own_w113 hw)) (mvT hZ (own_w110 hw)) (mvT hZ (own_w59 hw)) (mvT hZ (own_w111 hw)) (by decide) (backOfSH (W := 0) (rmNS l Z a0 hw [] b1 k1 z1 xs lo mm h0 n0 O0 V1 hb0 (by omega) (by omega) (by omega) hnn) hZ (own_w111 hw) (own_w59 hw) (by decide) (by decide) (own_EW hw) (CHr.refl hH0).1) (g := (mkF m 68 #[.val (.ref b1), .val (.int hi), .val (.int lo)] [(.int mm), (.int lo), (.ref b1)])) rfl (by rw [hml]; rfl) (argsL := [(.ref b1), (.int lo), (.int mm)]) (rest := []) (lenOf pd_15 rfl) rfl (by show 2 * 0 + _ ≤ _; exact Nat.le_of_eq rfl) (hb hby d16_68) (fun _ _ => ⟨rfl, e0, (by decide : 0 + 2 ≤ _), (by decide : 0 + 9 ≤ _)⟩)
       dsimp only [Pt.U, Pt.locs, Pt.cells, Pt.slots] at Xr6 S26 sz6 l6 y6 z6 st6 hQ6 Hc6
       subst l6 y6 z6
       obtain ⟨X6, hS6, hZ6, hown6⟩ := rebS hS0 (by rw [e0]; exact (Nat.le_refl _)) Xr6 S26 sz6 hZ hown
       have CHc6 := (CHr.refl hH0).trans Hc6
       obtain ⟨nr6, nv6, nk6, rfl, Nq6, Kp6, Er6, Fv6, Fc6, Vr6⟩ := hQ6
       have O_6 := O0.keep Kp6 all0
       have K_6 := (Keep.refl h0 []).trans Kp6 all0
       have N6 := Fr.app N0 Nq6
       refine GoesH.via (B := T6.setTop (mkF m 71 #[.val (.ref b1), .val (.int hi), .val (.int lo)] [(.ref nr6)])) st6 ?_
       refine GoesH.step (fun _ k => pw_goto X6.here hx (pc' := 75) (hb hby d16_71) (by decide) (by decide) _ k) ?_
       exact GoesH.retA X6 hS6 (Nat.le_refl _) hZ6 (own_EW hw) (by rw [show s.heap = h0 from hh]; exact CHc6) hx rfl Bd.returns rfl rfl hlk (hb hby d16_75) (by decide) (by decide) (⟨.ref nr6, rfl, N6, K_6, Or.inr ⟨nr6, nv6, nk6, mm, rfl, (by rw [← hhi.1, ← hhi.2]; exact hmm), Er6, Fv6, Fc6, (by rw [← hhi.1]; exact Vr6)⟩⟩)
     · refine GoesH.step (fun _ k => pw_icmpYes X0.here hx (pc' := 74) (hb hby d16_60) (flt hc60_4).2.1 (by decide) (by decide) _ (pw_aconstNull X0.here hx (hb hby d16_74) _ k)) ?_
       exact GoesH.retA X0 hS0 (Nat.le_refl _) hZ (own_EW hw) (by rw [show s.heap = h0 from hh]; exact (CHr.refl hH0)) hx e0 Bd.returns rfl rfl hlk (hb hby d16_75) (by decide) (by decide) (⟨.null, rfl, N0, (Keep.refl h0 []), Or.inl ⟨rfl, (by rw [← hhi.1]; exact Int32.toInt_inj.mp (by have q := own_nlt' hc54_1; rw [own_i0] at q; rw [own_i0]; omega)), (by rw [← hhi.2]; exact Int32.toInt_inj.mp (by have q := own_nlt' hc60_4; omega))⟩⟩)
  rcases own_l5 hzl hz4 hz0 with ⟨rfl, rfl⟩ | ⟨x0, rfl, rfl⟩ | ⟨x0, x1, rfl, rfl⟩ | ⟨x0, x1, x2, rfl, rfl⟩ | ⟨x0, x1, x2, x3, rfl, rfl⟩
  · refine GoesH.step (fun _ k => pw_aloadN X0.here hx (hb hby d16_0) rfl rfl _ k) ?_
    obtain ⟨c7, Ar7, -, Sz7, Nn7, -, -⟩ := id V1
    have len7 := X0.arraylength hx (by rw [e0]; exact Ar7.1) (State.isArrayOf_alike hZ.alike Ar7.2.1) (g := (mkF m 1 #[.val (.ref b1), .unset, .unset] [(.ref b1)])) rfl rfl (hb hby d16_1)
    rw [len_of Sz7 Nn7] at len7
    refine GoesH.step (B := s₁.setTop (mkF m 2 #[.val (.ref b1), .unset, .unset] [(.int 0)])) len7 ?_
    refine GoesH.step (fun _ k => pw_istoreN X0.here hx (l' := #[.val (.ref b1), .val (.int 0), .unset]) (hb hby d16_2) rfl _ (pw_iconst X0.here hx (v := (0 : Int32)) (hb hby d16_3) rfl _ (pw_istoreN X0.here hx (l' := #[.val (.ref b1), .val (.int 0), .val (.int 0)]) (hb hby d16_4) rfl _ (pw_iloadN X0.here hx (hb hby d16_5) rfl _ (pw_iloadN X0.here hx (hb hby d16_6) rfl _ (pw_icmpYes X0.here hx (pc' := 28) (hb hby d16_7) (flt (by decide)).2.1 (by decide) (by decide) _ k)))))) ?_
    refine GoesH.step (fun _ k => pw_iloadN X0.here hx (hb hby d16_28) rfl _ (pw_iloadN X0.here hx (hb hby d16_29) rfl _ (pw_icmpYes X0.here hx (pc' := 53) (hb hby d16_30) (flt (by decide)).2.1 (by decide) (by decide) _ k))) ?_
    exact J1 (0 : Int32) (0 : Int32) ⟨rfl, rfl⟩
  · refine GoesH.step (fun _ k => pw_aloadN X0.here hx (hb hby d16_0) rfl rfl _ k) ?_
    obtain ⟨c8, Ar8, -, Sz8, Nn8, -, -⟩ := id V1
    have len8 := X0.arraylength hx (by rw [e0]; exact Ar8.1) (State.isArrayOf_alike hZ.alike Ar8.2.1) (g := (mkF m 1 #[.val (.ref b1), .unset, .unset] [(.ref b1)])) rfl rfl (hb hby d16_1)
    rw [len_of Sz8 Nn8] at len8
    refine GoesH.step (B := s₁.setTop (mkF m 2 #[.val (.ref b1), .unset, .unset] [(.int 1)])) len8 ?_
    refine GoesH.step (fun _ k => pw_istoreN X0.here hx (l' := #[.val (.ref b1), .val (.int 1), .unset]) (hb hby d16_2) rfl _ (pw_iconst X0.here hx (v := (0 : Int32)) (hb hby d16_3) rfl _ (pw_istoreN X0.here hx (l' := #[.val (.ref b1), .val (.int 1), .val (.int 0)]) (hb hby d16_4) rfl _ (pw_iloadN X0.here hx (hb hby d16_5) rfl _ (pw_iloadN X0.here hx (hb hby d16_6) rfl _ (pw_icmpNo X0.here hx (hb hby d16_7) (tlt (by decide)).2.1 _ k)))))) ?_
    refine GoesH.step (fun _ k => pw_aloadN X0.here hx (hb hby d16_10) rfl rfl _ (pw_iloadN X0.here hx (hb hby d16_11) rfl _ k)) ?_
    obtain ⟨c9, Ar9, -, Sz9, Nn9, Hs9, -⟩ := id V1
    have hin9 : ¬ ((0 : Int32) < 0 ∨ c9.slots.size ≤ ((0 : Int32)).toNatClampNeg) := inb_of Sz9 ⟨by decide, by decide⟩
    refine GoesH.step (B := s₁.setTop (mkF m 13 #[.val (.ref b1), .val (.int 1), .val (.int 0)] [(.int x0)])) (X0.baloadBytes hx (j := (0 : Int32)) (v := (.int x0)) (by rw [e0]; exact Ar9.1) (State.isArrayOf_alike hZ.alike Ar9.2.1) Ar9.2.2 hin9 (Has.at Hs9 hin9 rfl) (g := (mkF m 12 #[.val (.ref b1), .val (.int 1), .val (.int 0)] [(.int 0), (.ref b1)])) rfl rfl (hb hby d16_12)) ?_
    refine GoesH.step (fun _ k => pw_sipush X0.here hx (v := (255 : Int32)) (hb hby d16_13) rfl _ (pw_iand X0.here hx (hb hby d16_16) _ (pw_bipush X0.here hx (v := (32 : Int32)) (hb hby d16_17) rfl _ k))) ?_
    by_cases hc19_9 : (32 : Int32) < (x0 &&& (255 : Int32))
    · refine GoesH.step (fun _ k => pw_icmpYes X0.here hx (pc' := 28) (hb hby d16_19) (tlt hc19_9).2.2.1 (by decide) (by decide) _ (pw_iloadN X0.here hx (hb hby d16_28) rfl _ (pw_iloadN X0.here hx (hb hby d16_29) rfl _ (pw_icmpNo X0.here hx (hb hby d16_30) (tlt (by decide)).2.1 _ (pw_aloadN X0.here hx (hb hby d16_33) rfl rfl _ (pw_iloadN X0.here hx (hb hby d16_34) rfl _ k)))))) ?_
      refine GoesH.step (fun _ k => pw_iconst X0.here hx (v := (1 : Int32)) (hb hby d16_35) rfl _ k) ?_
      refine GoesH.step (B := s₁.setTop (mkF m 37 #[.val (.ref b1), .val (.int 1), .val (.int 0)] [(.int 0), (.ref b1)])) (fun _ k => XS.isub X0.here hx rfl (hb hby d16_36) rfl k) ?_
      obtain ⟨c11, Ar11, -, Sz11, Nn11, Hs11, -⟩ := id V1
      have hin11 : ¬ ((0 : Int32) < 0 ∨ c11.slots.size ≤ ((0 : Int32)).toNatClampNeg) := inb_of Sz11 ⟨by decide, by decide⟩
      refine GoesH.step (B := s₁.setTop (mkF m 38 #[.val (.ref b1), .val (.int 1), .val (.int 0)] [(.int x0)])) (X0.baloadBytes hx (j := (0 : Int32)) (v := (.int x0)) (by rw [e0]; exact Ar11.1) (State.isArrayOf_alike hZ.alike Ar11.2.1) Ar11.2.2 hin11 (Has.at Hs11 hin11 rfl) (g := (mkF m 37 #[.val (.ref b1), .val (.int 1), .val (.int 0)] [(.int 0), (.ref b1)])) rfl rfl (hb hby d16_37)) ?_
      refine GoesH.step (fun _ k => pw_sipush X0.here hx (v := (255 : Int32)) (hb hby d16_38) rfl _ (pw_iand X0.here hx (hb hby d16_41) _ (pw_bipush X0.here hx (v := (32 : Int32)) (hb hby d16_42) rfl _ (pw_icmpYes X0.here hx (pc' := 53) (hb hby d16_44) (tlt hc19_9).2.2.1 (by decide) (by decide) _ k)))) ?_
      exact J1 (1 : Int32) (0 : Int32) ⟨(by rw [show own_lo [x0] = own_lo1 x0 from rfl, own_lo1, if_pos hc19_9]), (by rw [show own_hi [x0] = own_hi1 x0 from rfl, own_hi1, if_pos hc19_9])⟩
    · refine GoesH.step (fun _ k => pw_icmpNo X0.here hx (hb hby d16_19) (flt hc19_9).2.2.1 _ (pw_iinc X0.here hx (l' := #[.val (.ref b1), .val (.int 1), .val (.int 1)]) (hb hby d16_22) rfl rfl _ (pw_goto X0.here hx (pc' := 5) (hb hby d16_25) (by decide) (by decide) _ (pw_iloadN X0.here hx (hb hby d16_5) rfl _ (pw_iloadN X0.here hx (hb hby d16_6) rfl _ (pw_icmpYes X0.here hx (pc' := 28) (hb hby d16_7) (flt (by decide)).2.1 (by decide) (by decide) _ k)))))) ?_
      refine GoesH.step (fun _ k => pw_iloadN X0.here hx (hb hby d16_28) rfl _ (pw_iloadN X0.here hx (hb hby d16_29) rfl _ (pw_icmpYes X0.here hx (pc' := 53) (hb hby d16_30) (flt (by decide)).2.1 (by decide) (by decide) _ k))) ?_
      exact J1 (1 : Int32) (1 : Int32) ⟨(by rw [show own_lo [x0] = own_lo1 x0 from rfl, own_lo1, if_neg hc19_9]), (by rw [show own_hi [x0] = own_hi1 x0 from rfl, own_hi1, if_neg hc19_9])⟩
  · refine GoesH.step (fun _ k => pw_aloadN X0.here hx (hb hby d16_0) rfl rfl _ k) ?_
    obtain ⟨c12, Ar12, -, Sz12, Nn12, -, -⟩ := id V1
    have len12 := X0.arraylength hx (by rw [e0]; exact Ar12.1) (State.isArrayOf_alike hZ.alike Ar12.2.1) (g := (mkF m 1 #[.val (.ref b1), .unset, .unset] [(.ref b1)])) rfl rfl (hb hby d16_1)
    rw [len_of Sz12 Nn12] at len12
    refine GoesH.step (B := s₁.setTop (mkF m 2 #[.val (.ref b1), .unset, .unset] [(.int 2)])) len12 ?_
    refine GoesH.step (fun _ k => pw_istoreN X0.here hx (l' := #[.val (.ref b1), .val (.int 2), .unset]) (hb hby d16_2) rfl _ (pw_iconst X0.here hx (v := (0 : Int32)) (hb hby d16_3) rfl _ (pw_istoreN X0.here hx (l' := #[.val (.ref b1), .val (.int 2), .val (.int 0)]) (hb hby d16_4) rfl _ (pw_iloadN X0.here hx (hb hby d16_5) rfl _ (pw_iloadN X0.here hx (hb hby d16_6) rfl _ (pw_icmpNo X0.here hx (hb hby d16_7) (tlt (by decide)).2.1 _ k)))))) ?_
    refine GoesH.step (fun _ k => pw_aloadN X0.here hx (hb hby d16_10) rfl rfl _ (pw_iloadN X0.here hx (hb hby d16_11) rfl _ k)) ?_
    obtain ⟨c13, Ar13, -, Sz13, Nn13, Hs13, -⟩ := id V1
    have hin13 : ¬ ((0 : Int32) < 0 ∨ c13.slots.size ≤ ((0 : Int32)).toNatClampNeg) := inb_of Sz13 ⟨by decide, by decide⟩
    refine GoesH.step (B := s₁.setTop (mkF m 13 #[.val (.ref b1), .val (.int 2), .val (.int 0)] [(.int x0)])) (X0.baloadBytes hx (j := (0 : Int32)) (v := (.int x0)) (by rw [e0]; exact Ar13.1) (State.isArrayOf_alike hZ.alike Ar13.2.1) Ar13.2.2 hin13 (Has.at Hs13 hin13 rfl) (g := (mkF m 12 #[.val (.ref b1), .val (.int 2), .val (.int 0)] [(.int 0), (.ref b1)])) rfl rfl (hb hby d16_12)) ?_
    refine GoesH.step (fun _ k => pw_sipush X0.here hx (v := (255 : Int32)) (hb hby d16_13) rfl _ (pw_iand X0.here hx (hb hby d16_16) _ (pw_bipush X0.here hx (v := (32 : Int32)) (hb hby d16_17) rfl _ k))) ?_
    by_cases hc19_13 : (32 : Int32) < (x0 &&& (255 : Int32))
    · refine GoesH.step (fun _ k => pw_icmpYes X0.here hx (pc' := 28) (hb hby d16_19) (tlt hc19_13).2.2.1 (by decide) (by decide) _ (pw_iloadN X0.here hx (hb hby d16_28) rfl _ (pw_iloadN X0.here hx (hb hby d16_29) rfl _ (pw_icmpNo X0.here hx (hb hby d16_30) (tlt (by decide)).2.1 _ (pw_aloadN X0.here hx (hb hby d16_33) rfl rfl _ (pw_iloadN X0.here hx (hb hby d16_34) rfl _ k)))))) ?_
      refine GoesH.step (fun _ k => pw_iconst X0.here hx (v := (1 : Int32)) (hb hby d16_35) rfl _ k) ?_
      refine GoesH.step (B := s₁.setTop (mkF m 37 #[.val (.ref b1), .val (.int 2), .val (.int 0)] [(.int 1), (.ref b1)])) (fun _ k => XS.isub X0.here hx rfl (hb hby d16_36) rfl k) ?_
      obtain ⟨c15, Ar15, -, Sz15, Nn15, Hs15, -⟩ := id V1
      have hin15 : ¬ ((1 : Int32) < 0 ∨ c15.slots.size ≤ ((1 : Int32)).toNatClampNeg) := inb_of Sz15 ⟨by decide, by decide⟩
      refine GoesH.step (B := s₁.setTop (mkF m 38 #[.val (.ref b1), .val (.int 2), .val (.int 0)] [(.int x1)])) (X0.baloadBytes hx (j := (1 : Int32)) (v := (.int x1)) (by rw [e0]; exact Ar15.1) (State.isArrayOf_alike hZ.alike Ar15.2.1) Ar15.2.2 hin15 (Has.at Hs15 hin15 rfl) (g := (mkF m 37 #[.val (.ref b1), .val (.int 2), .val (.int 0)] [(.int 1), (.ref b1)])) rfl rfl (hb hby d16_37)) ?_
      refine GoesH.step (fun _ k => pw_sipush X0.here hx (v := (255 : Int32)) (hb hby d16_38) rfl _ (pw_iand X0.here hx (hb hby d16_41) _ (pw_bipush X0.here hx (v := (32 : Int32)) (hb hby d16_42) rfl _ k))) ?_
      by_cases hc44_15 : (32 : Int32) < (x1 &&& (255 : Int32))
      · refine GoesH.step (fun _ k => pw_icmpYes X0.here hx (pc' := 53) (hb hby d16_44) (tlt hc44_15).2.2.1 (by decide) (by decide) _ k) ?_
        exact J1 (2 : Int32) (0 : Int32) ⟨(by rw [show own_lo [x0, x1] = own_lo2 x0 x1 from rfl, own_lo2, if_pos hc19_13]), (by rw [show own_hi [x0, x1] = own_hi2 x0 x1 from rfl, own_hi2, if_pos hc19_13, if_pos hc44_15])⟩
      · refine GoesH.step (fun _ k => pw_icmpNo X0.here hx (hb hby d16_44) (flt hc44_15).2.2.1 _ (pw_iinc X0.here hx (l' := #[.val (.ref b1), .val (.int 1), .val (.int 0)]) (hb hby d16_47) rfl rfl _ (pw_goto X0.here hx (pc' := 28) (hb hby d16_50) (by decide) (by decide) _ (pw_iloadN X0.here hx (hb hby d16_28) rfl _ (pw_iloadN X0.here hx (hb hby d16_29) rfl _ (pw_icmpNo X0.here hx (hb hby d16_30) (tlt (by decide)).2.1 _ k)))))) ?_
        refine GoesH.step (fun _ k => pw_aloadN X0.here hx (hb hby d16_33) rfl rfl _ (pw_iloadN X0.here hx (hb hby d16_34) rfl _ (pw_iconst X0.here hx (v := (1 : Int32)) (hb hby d16_35) rfl _ k))) ?_
        refine GoesH.step (B := s₁.setTop (mkF m 37 #[.val (.ref b1), .val (.int 1), .val (.int 0)] [(.int 0), (.ref b1)])) (fun _ k => XS.isub X0.here hx rfl (hb hby d16_36) rfl k) ?_
        obtain ⟨c17, Ar17, -, Sz17, Nn17, Hs17, -⟩ := id V1
        have hin17 : ¬ ((0 : Int32) < 0 ∨ c17.slots.size ≤ ((0 : Int32)).toNatClampNeg) := inb_of Sz17 ⟨by decide, by decide⟩
        refine GoesH.step (B := s₁.setTop (mkF m 38 #[.val (.ref b1), .val (.int 1), .val (.int 0)] [(.int x0)])) (X0.baloadBytes hx (j := (0 : Int32)) (v := (.int x0)) (by rw [e0]; exact Ar17.1) (State.isArrayOf_alike hZ.alike Ar17.2.1) Ar17.2.2 hin17 (Has.at Hs17 hin17 rfl) (g := (mkF m 37 #[.val (.ref b1), .val (.int 1), .val (.int 0)] [(.int 0), (.ref b1)])) rfl rfl (hb hby d16_37)) ?_
        refine GoesH.step (fun _ k => pw_sipush X0.here hx (v := (255 : Int32)) (hb hby d16_38) rfl _ (pw_iand X0.here hx (hb hby d16_41) _ (pw_bipush X0.here hx (v := (32 : Int32)) (hb hby d16_42) rfl _ (pw_icmpYes X0.here hx (pc' := 53) (hb hby d16_44) (tlt hc19_13).2.2.1 (by decide) (by decide) _ k)))) ?_
        exact J1 (1 : Int32) (0 : Int32) ⟨(by rw [show own_lo [x0, x1] = own_lo2 x0 x1 from rfl, own_lo2, if_pos hc19_13]), (by rw [show own_hi [x0, x1] = own_hi2 x0 x1 from rfl, own_hi2, if_pos hc19_13, if_neg hc44_15])⟩
    · refine GoesH.step (fun _ k => pw_icmpNo X0.here hx (hb hby d16_19) (flt hc19_13).2.2.1 _ (pw_iinc X0.here hx (l' := #[.val (.ref b1), .val (.int 2), .val (.int 1)]) (hb hby d16_22) rfl rfl _ (pw_goto X0.here hx (pc' := 5) (hb hby d16_25) (by decide) (by decide) _ (pw_iloadN X0.here hx (hb hby d16_5) rfl _ (pw_iloadN X0.here hx (hb hby d16_6) rfl _ (pw_icmpNo X0.here hx (hb hby d16_7) (tlt (by decide)).2.1 _ k)))))) ?_
      refine GoesH.step (fun _ k => pw_aloadN X0.here hx (hb hby d16_10) rfl rfl _ (pw_iloadN X0.here hx (hb hby d16_11) rfl _ k)) ?_
      obtain ⟨c18, Ar18, -, Sz18, Nn18, Hs18, -⟩ := id V1
      have hin18 : ¬ ((1 : Int32) < 0 ∨ c18.slots.size ≤ ((1 : Int32)).toNatClampNeg) := inb_of Sz18 ⟨by decide, by decide⟩
      refine GoesH.step (B := s₁.setTop (mkF m 13 #[.val (.ref b1), .val (.int 2), .val (.int 1)] [(.int x1)])) (X0.baloadBytes hx (j := (1 : Int32)) (v := (.int x1)) (by rw [e0]; exact Ar18.1) (State.isArrayOf_alike hZ.alike Ar18.2.1) Ar18.2.2 hin18 (Has.at Hs18 hin18 rfl) (g := (mkF m 12 #[.val (.ref b1), .val (.int 2), .val (.int 1)] [(.int 1), (.ref b1)])) rfl rfl (hb hby d16_12)) ?_
      refine GoesH.step (fun _ k => pw_sipush X0.here hx (v := (255 : Int32)) (hb hby d16_13) rfl _ (pw_iand X0.here hx (hb hby d16_16) _ (pw_bipush X0.here hx (v := (32 : Int32)) (hb hby d16_17) rfl _ k))) ?_
      by_cases hc19_18 : (32 : Int32) < (x1 &&& (255 : Int32))
      · refine GoesH.step (fun _ k => pw_icmpYes X0.here hx (pc' := 28) (hb hby d16_19) (tlt hc19_18).2.2.1 (by decide) (by decide) _ (pw_iloadN X0.here hx (hb hby d16_28) rfl _ (pw_iloadN X0.here hx (hb hby d16_29) rfl _ (pw_icmpNo X0.here hx (hb hby d16_30) (tlt (by decide)).2.1 _ (pw_aloadN X0.here hx (hb hby d16_33) rfl rfl _ (pw_iloadN X0.here hx (hb hby d16_34) rfl _ k)))))) ?_
        refine GoesH.step (fun _ k => pw_iconst X0.here hx (v := (1 : Int32)) (hb hby d16_35) rfl _ k) ?_
        refine GoesH.step (B := s₁.setTop (mkF m 37 #[.val (.ref b1), .val (.int 2), .val (.int 1)] [(.int 1), (.ref b1)])) (fun _ k => XS.isub X0.here hx rfl (hb hby d16_36) rfl k) ?_
        obtain ⟨c20, Ar20, -, Sz20, Nn20, Hs20, -⟩ := id V1
        have hin20 : ¬ ((1 : Int32) < 0 ∨ c20.slots.size ≤ ((1 : Int32)).toNatClampNeg) := inb_of Sz20 ⟨by decide, by decide⟩
        refine GoesH.step (B := s₁.setTop (mkF m 38 #[.val (.ref b1), .val (.int 2), .val (.int 1)] [(.int x1)])) (X0.baloadBytes hx (j := (1 : Int32)) (v := (.int x1)) (by rw [e0]; exact Ar20.1) (State.isArrayOf_alike hZ.alike Ar20.2.1) Ar20.2.2 hin20 (Has.at Hs20 hin20 rfl) (g := (mkF m 37 #[.val (.ref b1), .val (.int 2), .val (.int 1)] [(.int 1), (.ref b1)])) rfl rfl (hb hby d16_37)) ?_
        refine GoesH.step (fun _ k => pw_sipush X0.here hx (v := (255 : Int32)) (hb hby d16_38) rfl _ (pw_iand X0.here hx (hb hby d16_41) _ (pw_bipush X0.here hx (v := (32 : Int32)) (hb hby d16_42) rfl _ (pw_icmpYes X0.here hx (pc' := 53) (hb hby d16_44) (tlt hc19_18).2.2.1 (by decide) (by decide) _ k)))) ?_
        exact J1 (2 : Int32) (1 : Int32) ⟨(by rw [show own_lo [x0, x1] = own_lo2 x0 x1 from rfl, own_lo2, if_neg hc19_13, if_pos hc19_18]), (by rw [show own_hi [x0, x1] = own_hi2 x0 x1 from rfl, own_hi2, if_neg hc19_13, if_pos hc19_18])⟩
      · refine GoesH.step (fun _ k => pw_icmpNo X0.here hx (hb hby d16_19) (flt hc19_18).2.2.1 _ (pw_iinc X0.here hx (l' := #[.val (.ref b1), .val (.int 2), .val (.int 2)]) (hb hby d16_22) rfl rfl _ (pw_goto X0.here hx (pc' := 5) (hb hby d16_25) (by decide) (by decide) _ (pw_iloadN X0.here hx (hb hby d16_5) rfl _ (pw_iloadN X0.here hx (hb hby d16_6) rfl _ (pw_icmpYes X0.here hx (pc' := 28) (hb hby d16_7) (flt (by decide)).2.1 (by decide) (by decide) _ k)))))) ?_
        refine GoesH.step (fun _ k => pw_iloadN X0.here hx (hb hby d16_28) rfl _ (pw_iloadN X0.here hx (hb hby d16_29) rfl _ (pw_icmpYes X0.here hx (pc' := 53) (hb hby d16_30) (flt (by decide)).2.1 (by decide) (by decide) _ k))) ?_
        exact J1 (2 : Int32) (2 : Int32) ⟨(by rw [show own_lo [x0, x1] = own_lo2 x0 x1 from rfl, own_lo2, if_neg hc19_13, if_neg hc19_18]), (by rw [show own_hi [x0, x1] = own_hi2 x0 x1 from rfl, own_hi2, if_neg hc19_13, if_neg hc19_18])⟩
  · refine GoesH.step (fun _ k => pw_aloadN X0.here hx (hb hby d16_0) rfl rfl _ k) ?_
    obtain ⟨c21, Ar21, -, Sz21, Nn21, -, -⟩ := id V1
    have len21 := X0.arraylength hx (by rw [e0]; exact Ar21.1) (State.isArrayOf_alike hZ.alike Ar21.2.1) (g := (mkF m 1 #[.val (.ref b1), .unset, .unset] [(.ref b1)])) rfl rfl (hb hby d16_1)
    rw [len_of Sz21 Nn21] at len21
    refine GoesH.step (B := s₁.setTop (mkF m 2 #[.val (.ref b1), .unset, .unset] [(.int 3)])) len21 ?_
    refine GoesH.step (fun _ k => pw_istoreN X0.here hx (l' := #[.val (.ref b1), .val (.int 3), .unset]) (hb hby d16_2) rfl _ (pw_iconst X0.here hx (v := (0 : Int32)) (hb hby d16_3) rfl _ (pw_istoreN X0.here hx (l' := #[.val (.ref b1), .val (.int 3), .val (.int 0)]) (hb hby d16_4) rfl _ (pw_iloadN X0.here hx (hb hby d16_5) rfl _ (pw_iloadN X0.here hx (hb hby d16_6) rfl _ (pw_icmpNo X0.here hx (hb hby d16_7) (tlt (by decide)).2.1 _ k)))))) ?_
    refine GoesH.step (fun _ k => pw_aloadN X0.here hx (hb hby d16_10) rfl rfl _ (pw_iloadN X0.here hx (hb hby d16_11) rfl _ k)) ?_
    obtain ⟨c22, Ar22, -, Sz22, Nn22, Hs22, -⟩ := id V1
    have hin22 : ¬ ((0 : Int32) < 0 ∨ c22.slots.size ≤ ((0 : Int32)).toNatClampNeg) := inb_of Sz22 ⟨by decide, by decide⟩
    refine GoesH.step (B := s₁.setTop (mkF m 13 #[.val (.ref b1), .val (.int 3), .val (.int 0)] [(.int x0)])) (X0.baloadBytes hx (j := (0 : Int32)) (v := (.int x0)) (by rw [e0]; exact Ar22.1) (State.isArrayOf_alike hZ.alike Ar22.2.1) Ar22.2.2 hin22 (Has.at Hs22 hin22 rfl) (g := (mkF m 12 #[.val (.ref b1), .val (.int 3), .val (.int 0)] [(.int 0), (.ref b1)])) rfl rfl (hb hby d16_12)) ?_
    refine GoesH.step (fun _ k => pw_sipush X0.here hx (v := (255 : Int32)) (hb hby d16_13) rfl _ (pw_iand X0.here hx (hb hby d16_16) _ (pw_bipush X0.here hx (v := (32 : Int32)) (hb hby d16_17) rfl _ k))) ?_
    by_cases hc19_22 : (32 : Int32) < (x0 &&& (255 : Int32))
    · refine GoesH.step (fun _ k => pw_icmpYes X0.here hx (pc' := 28) (hb hby d16_19) (tlt hc19_22).2.2.1 (by decide) (by decide) _ (pw_iloadN X0.here hx (hb hby d16_28) rfl _ (pw_iloadN X0.here hx (hb hby d16_29) rfl _ (pw_icmpNo X0.here hx (hb hby d16_30) (tlt (by decide)).2.1 _ (pw_aloadN X0.here hx (hb hby d16_33) rfl rfl _ (pw_iloadN X0.here hx (hb hby d16_34) rfl _ k)))))) ?_
      refine GoesH.step (fun _ k => pw_iconst X0.here hx (v := (1 : Int32)) (hb hby d16_35) rfl _ k) ?_
      refine GoesH.step (B := s₁.setTop (mkF m 37 #[.val (.ref b1), .val (.int 3), .val (.int 0)] [(.int 2), (.ref b1)])) (fun _ k => XS.isub X0.here hx rfl (hb hby d16_36) rfl k) ?_
      obtain ⟨c24, Ar24, -, Sz24, Nn24, Hs24, -⟩ := id V1
      have hin24 : ¬ ((2 : Int32) < 0 ∨ c24.slots.size ≤ ((2 : Int32)).toNatClampNeg) := inb_of Sz24 ⟨by decide, by decide⟩
      refine GoesH.step (B := s₁.setTop (mkF m 38 #[.val (.ref b1), .val (.int 3), .val (.int 0)] [(.int x2)])) (X0.baloadBytes hx (j := (2 : Int32)) (v := (.int x2)) (by rw [e0]; exact Ar24.1) (State.isArrayOf_alike hZ.alike Ar24.2.1) Ar24.2.2 hin24 (Has.at Hs24 hin24 rfl) (g := (mkF m 37 #[.val (.ref b1), .val (.int 3), .val (.int 0)] [(.int 2), (.ref b1)])) rfl rfl (hb hby d16_37)) ?_
      refine GoesH.step (fun _ k => pw_sipush X0.here hx (v := (255 : Int32)) (hb hby d16_38) rfl _ (pw_iand X0.here hx (hb hby d16_41) _ (pw_bipush X0.here hx (v := (32 : Int32)) (hb hby d16_42) rfl _ k))) ?_
      by_cases hc44_24 : (32 : Int32) < (x2 &&& (255 : Int32))
      · refine GoesH.step (fun _ k => pw_icmpYes X0.here hx (pc' := 53) (hb hby d16_44) (tlt hc44_24).2.2.1 (by decide) (by decide) _ k) ?_
        exact J1 (3 : Int32) (0 : Int32) ⟨(by rw [show own_lo [x0, x1, x2] = own_lo3 x0 x1 x2 from rfl, own_lo3, if_pos hc19_22]), (by rw [show own_hi [x0, x1, x2] = own_hi3 x0 x1 x2 from rfl, own_hi3, if_pos hc19_22, if_pos hc44_24])⟩
      · refine GoesH.step (fun _ k => pw_icmpNo X0.here hx (hb hby d16_44) (flt hc44_24).2.2.1 _ (pw_iinc X0.here hx (l' := #[.val (.ref b1), .val (.int 2), .val (.int 0)]) (hb hby d16_47) rfl rfl _ (pw_goto X0.here hx (pc' := 28) (hb hby d16_50) (by decide) (by decide) _ (pw_iloadN X0.here hx (hb hby d16_28) rfl _ (pw_iloadN X0.here hx (hb hby d16_29) rfl _ (pw_icmpNo X0.here hx (hb hby d16_30) (tlt (by decide)).2.1 _ k)))))) ?_
        refine GoesH.step (fun _ k => pw_aloadN X0.here hx (hb hby d16_33) rfl rfl _ (pw_iloadN X0.here hx (hb hby d16_34) rfl _ (pw_iconst X0.here hx (v := (1 : Int32)) (hb hby d16_35) rfl _ k))) ?_
        refine GoesH.step (B := s₁.setTop (mkF m 37 #[.val (.ref b1), .val (.int 2), .val (.int 0)] [(.int 1), (.ref b1)])) (fun _ k => XS.isub X0.here hx rfl (hb hby d16_36) rfl k) ?_
        obtain ⟨c26, Ar26, -, Sz26, Nn26, Hs26, -⟩ := id V1
        have hin26 : ¬ ((1 : Int32) < 0 ∨ c26.slots.size ≤ ((1 : Int32)).toNatClampNeg) := inb_of Sz26 ⟨by decide, by decide⟩
        refine GoesH.step (B := s₁.setTop (mkF m 38 #[.val (.ref b1), .val (.int 2), .val (.int 0)] [(.int x1)])) (X0.baloadBytes hx (j := (1 : Int32)) (v := (.int x1)) (by rw [e0]; exact Ar26.1) (State.isArrayOf_alike hZ.alike Ar26.2.1) Ar26.2.2 hin26 (Has.at Hs26 hin26 rfl) (g := (mkF m 37 #[.val (.ref b1), .val (.int 2), .val (.int 0)] [(.int 1), (.ref b1)])) rfl rfl (hb hby d16_37)) ?_
        refine GoesH.step (fun _ k => pw_sipush X0.here hx (v := (255 : Int32)) (hb hby d16_38) rfl _ (pw_iand X0.here hx (hb hby d16_41) _ (pw_bipush X0.here hx (v := (32 : Int32)) (hb hby d16_42) rfl _ k))) ?_
        by_cases hc44_26 : (32 : Int32) < (x1 &&& (255 : Int32))
        · refine GoesH.step (fun _ k => pw_icmpYes X0.here hx (pc' := 53) (hb hby d16_44) (tlt hc44_26).2.2.1 (by decide) (by decide) _ k) ?_
          exact J1 (2 : Int32) (0 : Int32) ⟨(by rw [show own_lo [x0, x1, x2] = own_lo3 x0 x1 x2 from rfl, own_lo3, if_pos hc19_22]), (by rw [show own_hi [x0, x1, x2] = own_hi3 x0 x1 x2 from rfl, own_hi3, if_pos hc19_22, if_neg hc44_24, if_pos hc44_26])⟩
        · refine GoesH.step (fun _ k => pw_icmpNo X0.here hx (hb hby d16_44) (flt hc44_26).2.2.1 _ (pw_iinc X0.here hx (l' := #[.val (.ref b1), .val (.int 1), .val (.int 0)]) (hb hby d16_47) rfl rfl _ (pw_goto X0.here hx (pc' := 28) (hb hby d16_50) (by decide) (by decide) _ (pw_iloadN X0.here hx (hb hby d16_28) rfl _ (pw_iloadN X0.here hx (hb hby d16_29) rfl _ (pw_icmpNo X0.here hx (hb hby d16_30) (tlt (by decide)).2.1 _ k)))))) ?_
          refine GoesH.step (fun _ k => pw_aloadN X0.here hx (hb hby d16_33) rfl rfl _ (pw_iloadN X0.here hx (hb hby d16_34) rfl _ (pw_iconst X0.here hx (v := (1 : Int32)) (hb hby d16_35) rfl _ k))) ?_
          refine GoesH.step (B := s₁.setTop (mkF m 37 #[.val (.ref b1), .val (.int 1), .val (.int 0)] [(.int 0), (.ref b1)])) (fun _ k => XS.isub X0.here hx rfl (hb hby d16_36) rfl k) ?_
          obtain ⟨c28, Ar28, -, Sz28, Nn28, Hs28, -⟩ := id V1
          have hin28 : ¬ ((0 : Int32) < 0 ∨ c28.slots.size ≤ ((0 : Int32)).toNatClampNeg) := inb_of Sz28 ⟨by decide, by decide⟩
          refine GoesH.step (B := s₁.setTop (mkF m 38 #[.val (.ref b1), .val (.int 1), .val (.int 0)] [(.int x0)])) (X0.baloadBytes hx (j := (0 : Int32)) (v := (.int x0)) (by rw [e0]; exact Ar28.1) (State.isArrayOf_alike hZ.alike Ar28.2.1) Ar28.2.2 hin28 (Has.at Hs28 hin28 rfl) (g := (mkF m 37 #[.val (.ref b1), .val (.int 1), .val (.int 0)] [(.int 0), (.ref b1)])) rfl rfl (hb hby d16_37)) ?_
          refine GoesH.step (fun _ k => pw_sipush X0.here hx (v := (255 : Int32)) (hb hby d16_38) rfl _ (pw_iand X0.here hx (hb hby d16_41) _ (pw_bipush X0.here hx (v := (32 : Int32)) (hb hby d16_42) rfl _ (pw_icmpYes X0.here hx (pc' := 53) (hb hby d16_44) (tlt hc19_22).2.2.1 (by decide) (by decide) _ k)))) ?_
          exact J1 (1 : Int32) (0 : Int32) ⟨(by rw [show own_lo [x0, x1, x2] = own_lo3 x0 x1 x2 from rfl, own_lo3, if_pos hc19_22]), (by rw [show own_hi [x0, x1, x2] = own_hi3 x0 x1 x2 from rfl, own_hi3, if_pos hc19_22, if_neg hc44_24, if_neg hc44_26])⟩
    · refine GoesH.step (fun _ k => pw_icmpNo X0.here hx (hb hby d16_19) (flt hc19_22).2.2.1 _ (pw_iinc X0.here hx (l' := #[.val (.ref b1), .val (.int 3), .val (.int 1)]) (hb hby d16_22) rfl rfl _ (pw_goto X0.here hx (pc' := 5) (hb hby d16_25) (by decide) (by decide) _ (pw_iloadN X0.here hx (hb hby d16_5) rfl _ (pw_iloadN X0.here hx (hb hby d16_6) rfl _ (pw_icmpNo X0.here hx (hb hby d16_7) (tlt (by decide)).2.1 _ k)))))) ?_
      refine GoesH.step (fun _ k => pw_aloadN X0.here hx (hb hby d16_10) rfl rfl _ (pw_iloadN X0.here hx (hb hby d16_11) rfl _ k)) ?_
      obtain ⟨c29, Ar29, -, Sz29, Nn29, Hs29, -⟩ := id V1
      have hin29 : ¬ ((1 : Int32) < 0 ∨ c29.slots.size ≤ ((1 : Int32)).toNatClampNeg) := inb_of Sz29 ⟨by decide, by decide⟩
      refine GoesH.step (B := s₁.setTop (mkF m 13 #[.val (.ref b1), .val (.int 3), .val (.int 1)] [(.int x1)])) (X0.baloadBytes hx (j := (1 : Int32)) (v := (.int x1)) (by rw [e0]; exact Ar29.1) (State.isArrayOf_alike hZ.alike Ar29.2.1) Ar29.2.2 hin29 (Has.at Hs29 hin29 rfl) (g := (mkF m 12 #[.val (.ref b1), .val (.int 3), .val (.int 1)] [(.int 1), (.ref b1)])) rfl rfl (hb hby d16_12)) ?_
      refine GoesH.step (fun _ k => pw_sipush X0.here hx (v := (255 : Int32)) (hb hby d16_13) rfl _ (pw_iand X0.here hx (hb hby d16_16) _ (pw_bipush X0.here hx (v := (32 : Int32)) (hb hby d16_17) rfl _ k))) ?_
      by_cases hc19_29 : (32 : Int32) < (x1 &&& (255 : Int32))
      · refine GoesH.step (fun _ k => pw_icmpYes X0.here hx (pc' := 28) (hb hby d16_19) (tlt hc19_29).2.2.1 (by decide) (by decide) _ (pw_iloadN X0.here hx (hb hby d16_28) rfl _ (pw_iloadN X0.here hx (hb hby d16_29) rfl _ (pw_icmpNo X0.here hx (hb hby d16_30) (tlt (by decide)).2.1 _ (pw_aloadN X0.here hx (hb hby d16_33) rfl rfl _ (pw_iloadN X0.here hx (hb hby d16_34) rfl _ k)))))) ?_
        refine GoesH.step (fun _ k => pw_iconst X0.here hx (v := (1 : Int32)) (hb hby d16_35) rfl _ k) ?_
        refine GoesH.step (B := s₁.setTop (mkF m 37 #[.val (.ref b1), .val (.int 3), .val (.int 1)] [(.int 2), (.ref b1)])) (fun _ k => XS.isub X0.here hx rfl (hb hby d16_36) rfl k) ?_
        obtain ⟨c31, Ar31, -, Sz31, Nn31, Hs31, -⟩ := id V1
        have hin31 : ¬ ((2 : Int32) < 0 ∨ c31.slots.size ≤ ((2 : Int32)).toNatClampNeg) := inb_of Sz31 ⟨by decide, by decide⟩
        refine GoesH.step (B := s₁.setTop (mkF m 38 #[.val (.ref b1), .val (.int 3), .val (.int 1)] [(.int x2)])) (X0.baloadBytes hx (j := (2 : Int32)) (v := (.int x2)) (by rw [e0]; exact Ar31.1) (State.isArrayOf_alike hZ.alike Ar31.2.1) Ar31.2.2 hin31 (Has.at Hs31 hin31 rfl) (g := (mkF m 37 #[.val (.ref b1), .val (.int 3), .val (.int 1)] [(.int 2), (.ref b1)])) rfl rfl (hb hby d16_37)) ?_
        refine GoesH.step (fun _ k => pw_sipush X0.here hx (v := (255 : Int32)) (hb hby d16_38) rfl _ (pw_iand X0.here hx (hb hby d16_41) _ (pw_bipush X0.here hx (v := (32 : Int32)) (hb hby d16_42) rfl _ k))) ?_
        by_cases hc44_31 : (32 : Int32) < (x2 &&& (255 : Int32))
        · refine GoesH.step (fun _ k => pw_icmpYes X0.here hx (pc' := 53) (hb hby d16_44) (tlt hc44_31).2.2.1 (by decide) (by decide) _ k) ?_
          exact J1 (3 : Int32) (1 : Int32) ⟨(by rw [show own_lo [x0, x1, x2] = own_lo3 x0 x1 x2 from rfl, own_lo3, if_neg hc19_22, if_pos hc19_29]), (by rw [show own_hi [x0, x1, x2] = own_hi3 x0 x1 x2 from rfl, own_hi3, if_neg hc19_22, if_pos hc19_29, if_pos hc44_31])⟩
        · refine GoesH.step (fun _ k => pw_icmpNo X0.here hx (hb hby d16_44) (flt hc44_31).2.2.1 _ (pw_iinc X0.here hx (l' := #[.val (.ref b1), .val (.int 2), .val (.int 1)]) (hb hby d16_47) rfl rfl _ (pw_goto X0.here hx (pc' := 28) (hb hby d16_50) (by decide) (by decide) _ (pw_iloadN X0.here hx (hb hby d16_28) rfl _ (pw_iloadN X0.here hx (hb hby d16_29) rfl _ (pw_icmpNo X0.here hx (hb hby d16_30) (tlt (by decide)).2.1 _ k)))))) ?_
          refine GoesH.step (fun _ k => pw_aloadN X0.here hx (hb hby d16_33) rfl rfl _ (pw_iloadN X0.here hx (hb hby d16_34) rfl _ (pw_iconst X0.here hx (v := (1 : Int32)) (hb hby d16_35) rfl _ k))) ?_
          refine GoesH.step (B := s₁.setTop (mkF m 37 #[.val (.ref b1), .val (.int 2), .val (.int 1)] [(.int 1), (.ref b1)])) (fun _ k => XS.isub X0.here hx rfl (hb hby d16_36) rfl k) ?_
          obtain ⟨c33, Ar33, -, Sz33, Nn33, Hs33, -⟩ := id V1
          have hin33 : ¬ ((1 : Int32) < 0 ∨ c33.slots.size ≤ ((1 : Int32)).toNatClampNeg) := inb_of Sz33 ⟨by decide, by decide⟩
          refine GoesH.step (B := s₁.setTop (mkF m 38 #[.val (.ref b1), .val (.int 2), .val (.int 1)] [(.int x1)])) (X0.baloadBytes hx (j := (1 : Int32)) (v := (.int x1)) (by rw [e0]; exact Ar33.1) (State.isArrayOf_alike hZ.alike Ar33.2.1) Ar33.2.2 hin33 (Has.at Hs33 hin33 rfl) (g := (mkF m 37 #[.val (.ref b1), .val (.int 2), .val (.int 1)] [(.int 1), (.ref b1)])) rfl rfl (hb hby d16_37)) ?_
          refine GoesH.step (fun _ k => pw_sipush X0.here hx (v := (255 : Int32)) (hb hby d16_38) rfl _ (pw_iand X0.here hx (hb hby d16_41) _ (pw_bipush X0.here hx (v := (32 : Int32)) (hb hby d16_42) rfl _ (pw_icmpYes X0.here hx (pc' := 53) (hb hby d16_44) (tlt hc19_29).2.2.1 (by decide) (by decide) _ k)))) ?_
          exact J1 (2 : Int32) (1 : Int32) ⟨(by rw [show own_lo [x0, x1, x2] = own_lo3 x0 x1 x2 from rfl, own_lo3, if_neg hc19_22, if_pos hc19_29]), (by rw [show own_hi [x0, x1, x2] = own_hi3 x0 x1 x2 from rfl, own_hi3, if_neg hc19_22, if_pos hc19_29, if_neg hc44_31])⟩
      · refine GoesH.step (fun _ k => pw_icmpNo X0.here hx (hb hby d16_19) (flt hc19_29).2.2.1 _ (pw_iinc X0.here hx (l' := #[.val (.ref b1), .val (.int 3), .val (.int 2)]) (hb hby d16_22) rfl rfl _ (pw_goto X0.here hx (pc' := 5) (hb hby d16_25) (by decide) (by decide) _ (pw_iloadN X0.here hx (hb hby d16_5) rfl _ (pw_iloadN X0.here hx (hb hby d16_6) rfl _ (pw_icmpNo X0.here hx (hb hby d16_7) (tlt (by decide)).2.1 _ k)))))) ?_
        refine GoesH.step (fun _ k => pw_aloadN X0.here hx (hb hby d16_10) rfl rfl _ (pw_iloadN X0.here hx (hb hby d16_11) rfl _ k)) ?_
        obtain ⟨c34, Ar34, -, Sz34, Nn34, Hs34, -⟩ := id V1
        have hin34 : ¬ ((2 : Int32) < 0 ∨ c34.slots.size ≤ ((2 : Int32)).toNatClampNeg) := inb_of Sz34 ⟨by decide, by decide⟩
        refine GoesH.step (B := s₁.setTop (mkF m 13 #[.val (.ref b1), .val (.int 3), .val (.int 2)] [(.int x2)])) (X0.baloadBytes hx (j := (2 : Int32)) (v := (.int x2)) (by rw [e0]; exact Ar34.1) (State.isArrayOf_alike hZ.alike Ar34.2.1) Ar34.2.2 hin34 (Has.at Hs34 hin34 rfl) (g := (mkF m 12 #[.val (.ref b1), .val (.int 3), .val (.int 2)] [(.int 2), (.ref b1)])) rfl rfl (hb hby d16_12)) ?_
        refine GoesH.step (fun _ k => pw_sipush X0.here hx (v := (255 : Int32)) (hb hby d16_13) rfl _ (pw_iand X0.here hx (hb hby d16_16) _ (pw_bipush X0.here hx (v := (32 : Int32)) (hb hby d16_17) rfl _ k))) ?_
        by_cases hc19_34 : (32 : Int32) < (x2 &&& (255 : Int32))
        · refine GoesH.step (fun _ k => pw_icmpYes X0.here hx (pc' := 28) (hb hby d16_19) (tlt hc19_34).2.2.1 (by decide) (by decide) _ (pw_iloadN X0.here hx (hb hby d16_28) rfl _ (pw_iloadN X0.here hx (hb hby d16_29) rfl _ (pw_icmpNo X0.here hx (hb hby d16_30) (tlt (by decide)).2.1 _ (pw_aloadN X0.here hx (hb hby d16_33) rfl rfl _ (pw_iloadN X0.here hx (hb hby d16_34) rfl _ k)))))) ?_
          refine GoesH.step (fun _ k => pw_iconst X0.here hx (v := (1 : Int32)) (hb hby d16_35) rfl _ k) ?_
          refine GoesH.step (B := s₁.setTop (mkF m 37 #[.val (.ref b1), .val (.int 3), .val (.int 2)] [(.int 2), (.ref b1)])) (fun _ k => XS.isub X0.here hx rfl (hb hby d16_36) rfl k) ?_
          obtain ⟨c36, Ar36, -, Sz36, Nn36, Hs36, -⟩ := id V1
          have hin36 : ¬ ((2 : Int32) < 0 ∨ c36.slots.size ≤ ((2 : Int32)).toNatClampNeg) := inb_of Sz36 ⟨by decide, by decide⟩
          refine GoesH.step (B := s₁.setTop (mkF m 38 #[.val (.ref b1), .val (.int 3), .val (.int 2)] [(.int x2)])) (X0.baloadBytes hx (j := (2 : Int32)) (v := (.int x2)) (by rw [e0]; exact Ar36.1) (State.isArrayOf_alike hZ.alike Ar36.2.1) Ar36.2.2 hin36 (Has.at Hs36 hin36 rfl) (g := (mkF m 37 #[.val (.ref b1), .val (.int 3), .val (.int 2)] [(.int 2), (.ref b1)])) rfl rfl (hb hby d16_37)) ?_
          refine GoesH.step (fun _ k => pw_sipush X0.here hx (v := (255 : Int32)) (hb hby d16_38) rfl _ (pw_iand X0.here hx (hb hby d16_41) _ (pw_bipush X0.here hx (v := (32 : Int32)) (hb hby d16_42) rfl _ (pw_icmpYes X0.here hx (pc' := 53) (hb hby d16_44) (tlt hc19_34).2.2.1 (by decide) (by decide) _ k)))) ?_
          exact J1 (3 : Int32) (2 : Int32) ⟨(by rw [show own_lo [x0, x1, x2] = own_lo3 x0 x1 x2 from rfl, own_lo3, if_neg hc19_22, if_neg hc19_29, if_pos hc19_34]), (by rw [show own_hi [x0, x1, x2] = own_hi3 x0 x1 x2 from rfl, own_hi3, if_neg hc19_22, if_neg hc19_29, if_pos hc19_34])⟩
        · refine GoesH.step (fun _ k => pw_icmpNo X0.here hx (hb hby d16_19) (flt hc19_34).2.2.1 _ (pw_iinc X0.here hx (l' := #[.val (.ref b1), .val (.int 3), .val (.int 3)]) (hb hby d16_22) rfl rfl _ (pw_goto X0.here hx (pc' := 5) (hb hby d16_25) (by decide) (by decide) _ (pw_iloadN X0.here hx (hb hby d16_5) rfl _ (pw_iloadN X0.here hx (hb hby d16_6) rfl _ (pw_icmpYes X0.here hx (pc' := 28) (hb hby d16_7) (flt (by decide)).2.1 (by decide) (by decide) _ k)))))) ?_
          refine GoesH.step (fun _ k => pw_iloadN X0.here hx (hb hby d16_28) rfl _ (pw_iloadN X0.here hx (hb hby d16_29) rfl _ (pw_icmpYes X0.here hx (pc' := 53) (hb hby d16_30) (flt (by decide)).2.1 (by decide) (by decide) _ k))) ?_
          exact J1 (3 : Int32) (3 : Int32) ⟨(by rw [show own_lo [x0, x1, x2] = own_lo3 x0 x1 x2 from rfl, own_lo3, if_neg hc19_22, if_neg hc19_29, if_neg hc19_34]), (by rw [show own_hi [x0, x1, x2] = own_hi3 x0 x1 x2 from rfl, own_hi3, if_neg hc19_22, if_neg hc19_29, if_neg hc19_34])⟩
  · refine GoesH.step (fun _ k => pw_aloadN X0.here hx (hb hby d16_0) rfl rfl _ k) ?_
    obtain ⟨c37, Ar37, -, Sz37, Nn37, -, -⟩ := id V1
    have len37 := X0.arraylength hx (by rw [e0]; exact Ar37.1) (State.isArrayOf_alike hZ.alike Ar37.2.1) (g := (mkF m 1 #[.val (.ref b1), .unset, .unset] [(.ref b1)])) rfl rfl (hb hby d16_1)
    rw [len_of Sz37 Nn37] at len37
    refine GoesH.step (B := s₁.setTop (mkF m 2 #[.val (.ref b1), .unset, .unset] [(.int 4)])) len37 ?_
    refine GoesH.step (fun _ k => pw_istoreN X0.here hx (l' := #[.val (.ref b1), .val (.int 4), .unset]) (hb hby d16_2) rfl _ (pw_iconst X0.here hx (v := (0 : Int32)) (hb hby d16_3) rfl _ (pw_istoreN X0.here hx (l' := #[.val (.ref b1), .val (.int 4), .val (.int 0)]) (hb hby d16_4) rfl _ (pw_iloadN X0.here hx (hb hby d16_5) rfl _ (pw_iloadN X0.here hx (hb hby d16_6) rfl _ (pw_icmpNo X0.here hx (hb hby d16_7) (tlt (by decide)).2.1 _ k)))))) ?_
    refine GoesH.step (fun _ k => pw_aloadN X0.here hx (hb hby d16_10) rfl rfl _ (pw_iloadN X0.here hx (hb hby d16_11) rfl _ k)) ?_
    obtain ⟨c38, Ar38, -, Sz38, Nn38, Hs38, -⟩ := id V1
    have hin38 : ¬ ((0 : Int32) < 0 ∨ c38.slots.size ≤ ((0 : Int32)).toNatClampNeg) := inb_of Sz38 ⟨by decide, by decide⟩
    refine GoesH.step (B := s₁.setTop (mkF m 13 #[.val (.ref b1), .val (.int 4), .val (.int 0)] [(.int x0)])) (X0.baloadBytes hx (j := (0 : Int32)) (v := (.int x0)) (by rw [e0]; exact Ar38.1) (State.isArrayOf_alike hZ.alike Ar38.2.1) Ar38.2.2 hin38 (Has.at Hs38 hin38 rfl) (g := (mkF m 12 #[.val (.ref b1), .val (.int 4), .val (.int 0)] [(.int 0), (.ref b1)])) rfl rfl (hb hby d16_12)) ?_
    refine GoesH.step (fun _ k => pw_sipush X0.here hx (v := (255 : Int32)) (hb hby d16_13) rfl _ (pw_iand X0.here hx (hb hby d16_16) _ (pw_bipush X0.here hx (v := (32 : Int32)) (hb hby d16_17) rfl _ k))) ?_
    by_cases hc19_38 : (32 : Int32) < (x0 &&& (255 : Int32))
    · refine GoesH.step (fun _ k => pw_icmpYes X0.here hx (pc' := 28) (hb hby d16_19) (tlt hc19_38).2.2.1 (by decide) (by decide) _ (pw_iloadN X0.here hx (hb hby d16_28) rfl _ (pw_iloadN X0.here hx (hb hby d16_29) rfl _ (pw_icmpNo X0.here hx (hb hby d16_30) (tlt (by decide)).2.1 _ (pw_aloadN X0.here hx (hb hby d16_33) rfl rfl _ (pw_iloadN X0.here hx (hb hby d16_34) rfl _ k)))))) ?_
      refine GoesH.step (fun _ k => pw_iconst X0.here hx (v := (1 : Int32)) (hb hby d16_35) rfl _ k) ?_
      refine GoesH.step (B := s₁.setTop (mkF m 37 #[.val (.ref b1), .val (.int 4), .val (.int 0)] [(.int 3), (.ref b1)])) (fun _ k => XS.isub X0.here hx rfl (hb hby d16_36) rfl k) ?_
      obtain ⟨c40, Ar40, -, Sz40, Nn40, Hs40, -⟩ := id V1
      have hin40 : ¬ ((3 : Int32) < 0 ∨ c40.slots.size ≤ ((3 : Int32)).toNatClampNeg) := inb_of Sz40 ⟨by decide, by decide⟩
      refine GoesH.step (B := s₁.setTop (mkF m 38 #[.val (.ref b1), .val (.int 4), .val (.int 0)] [(.int x3)])) (X0.baloadBytes hx (j := (3 : Int32)) (v := (.int x3)) (by rw [e0]; exact Ar40.1) (State.isArrayOf_alike hZ.alike Ar40.2.1) Ar40.2.2 hin40 (Has.at Hs40 hin40 rfl) (g := (mkF m 37 #[.val (.ref b1), .val (.int 4), .val (.int 0)] [(.int 3), (.ref b1)])) rfl rfl (hb hby d16_37)) ?_
      refine GoesH.step (fun _ k => pw_sipush X0.here hx (v := (255 : Int32)) (hb hby d16_38) rfl _ (pw_iand X0.here hx (hb hby d16_41) _ (pw_bipush X0.here hx (v := (32 : Int32)) (hb hby d16_42) rfl _ k))) ?_
      by_cases hc44_40 : (32 : Int32) < (x3 &&& (255 : Int32))
      · refine GoesH.step (fun _ k => pw_icmpYes X0.here hx (pc' := 53) (hb hby d16_44) (tlt hc44_40).2.2.1 (by decide) (by decide) _ k) ?_
        exact J1 (4 : Int32) (0 : Int32) ⟨(by rw [show own_lo [x0, x1, x2, x3] = own_lo4 x0 x1 x2 x3 from rfl, own_lo4, if_pos hc19_38]), (by rw [show own_hi [x0, x1, x2, x3] = own_hi4 x0 x1 x2 x3 from rfl, own_hi4, if_pos hc19_38, if_pos hc44_40])⟩
      · refine GoesH.step (fun _ k => pw_icmpNo X0.here hx (hb hby d16_44) (flt hc44_40).2.2.1 _ (pw_iinc X0.here hx (l' := #[.val (.ref b1), .val (.int 3), .val (.int 0)]) (hb hby d16_47) rfl rfl _ (pw_goto X0.here hx (pc' := 28) (hb hby d16_50) (by decide) (by decide) _ (pw_iloadN X0.here hx (hb hby d16_28) rfl _ (pw_iloadN X0.here hx (hb hby d16_29) rfl _ (pw_icmpNo X0.here hx (hb hby d16_30) (tlt (by decide)).2.1 _ k)))))) ?_
        refine GoesH.step (fun _ k => pw_aloadN X0.here hx (hb hby d16_33) rfl rfl _ (pw_iloadN X0.here hx (hb hby d16_34) rfl _ (pw_iconst X0.here hx (v := (1 : Int32)) (hb hby d16_35) rfl _ k))) ?_
        refine GoesH.step (B := s₁.setTop (mkF m 37 #[.val (.ref b1), .val (.int 3), .val (.int 0)] [(.int 2), (.ref b1)])) (fun _ k => XS.isub X0.here hx rfl (hb hby d16_36) rfl k) ?_
        obtain ⟨c42, Ar42, -, Sz42, Nn42, Hs42, -⟩ := id V1
        have hin42 : ¬ ((2 : Int32) < 0 ∨ c42.slots.size ≤ ((2 : Int32)).toNatClampNeg) := inb_of Sz42 ⟨by decide, by decide⟩
        refine GoesH.step (B := s₁.setTop (mkF m 38 #[.val (.ref b1), .val (.int 3), .val (.int 0)] [(.int x2)])) (X0.baloadBytes hx (j := (2 : Int32)) (v := (.int x2)) (by rw [e0]; exact Ar42.1) (State.isArrayOf_alike hZ.alike Ar42.2.1) Ar42.2.2 hin42 (Has.at Hs42 hin42 rfl) (g := (mkF m 37 #[.val (.ref b1), .val (.int 3), .val (.int 0)] [(.int 2), (.ref b1)])) rfl rfl (hb hby d16_37)) ?_
        refine GoesH.step (fun _ k => pw_sipush X0.here hx (v := (255 : Int32)) (hb hby d16_38) rfl _ (pw_iand X0.here hx (hb hby d16_41) _ (pw_bipush X0.here hx (v := (32 : Int32)) (hb hby d16_42) rfl _ k))) ?_
        by_cases hc44_42 : (32 : Int32) < (x2 &&& (255 : Int32))
        · refine GoesH.step (fun _ k => pw_icmpYes X0.here hx (pc' := 53) (hb hby d16_44) (tlt hc44_42).2.2.1 (by decide) (by decide) _ k) ?_
          exact J1 (3 : Int32) (0 : Int32) ⟨(by rw [show own_lo [x0, x1, x2, x3] = own_lo4 x0 x1 x2 x3 from rfl, own_lo4, if_pos hc19_38]), (by rw [show own_hi [x0, x1, x2, x3] = own_hi4 x0 x1 x2 x3 from rfl, own_hi4, if_pos hc19_38, if_neg hc44_40, if_pos hc44_42])⟩
        · refine GoesH.step (fun _ k => pw_icmpNo X0.here hx (hb hby d16_44) (flt hc44_42).2.2.1 _ (pw_iinc X0.here hx (l' := #[.val (.ref b1), .val (.int 2), .val (.int 0)]) (hb hby d16_47) rfl rfl _ (pw_goto X0.here hx (pc' := 28) (hb hby d16_50) (by decide) (by decide) _ (pw_iloadN X0.here hx (hb hby d16_28) rfl _ (pw_iloadN X0.here hx (hb hby d16_29) rfl _ (pw_icmpNo X0.here hx (hb hby d16_30) (tlt (by decide)).2.1 _ k)))))) ?_
          refine GoesH.step (fun _ k => pw_aloadN X0.here hx (hb hby d16_33) rfl rfl _ (pw_iloadN X0.here hx (hb hby d16_34) rfl _ (pw_iconst X0.here hx (v := (1 : Int32)) (hb hby d16_35) rfl _ k))) ?_
          refine GoesH.step (B := s₁.setTop (mkF m 37 #[.val (.ref b1), .val (.int 2), .val (.int 0)] [(.int 1), (.ref b1)])) (fun _ k => XS.isub X0.here hx rfl (hb hby d16_36) rfl k) ?_
          obtain ⟨c44, Ar44, -, Sz44, Nn44, Hs44, -⟩ := id V1
          have hin44 : ¬ ((1 : Int32) < 0 ∨ c44.slots.size ≤ ((1 : Int32)).toNatClampNeg) := inb_of Sz44 ⟨by decide, by decide⟩
          refine GoesH.step (B := s₁.setTop (mkF m 38 #[.val (.ref b1), .val (.int 2), .val (.int 0)] [(.int x1)])) (X0.baloadBytes hx (j := (1 : Int32)) (v := (.int x1)) (by rw [e0]; exact Ar44.1) (State.isArrayOf_alike hZ.alike Ar44.2.1) Ar44.2.2 hin44 (Has.at Hs44 hin44 rfl) (g := (mkF m 37 #[.val (.ref b1), .val (.int 2), .val (.int 0)] [(.int 1), (.ref b1)])) rfl rfl (hb hby d16_37)) ?_
          refine GoesH.step (fun _ k => pw_sipush X0.here hx (v := (255 : Int32)) (hb hby d16_38) rfl _ (pw_iand X0.here hx (hb hby d16_41) _ (pw_bipush X0.here hx (v := (32 : Int32)) (hb hby d16_42) rfl _ k))) ?_
          by_cases hc44_44 : (32 : Int32) < (x1 &&& (255 : Int32))
          · refine GoesH.step (fun _ k => pw_icmpYes X0.here hx (pc' := 53) (hb hby d16_44) (tlt hc44_44).2.2.1 (by decide) (by decide) _ k) ?_
            exact J1 (2 : Int32) (0 : Int32) ⟨(by rw [show own_lo [x0, x1, x2, x3] = own_lo4 x0 x1 x2 x3 from rfl, own_lo4, if_pos hc19_38]), (by rw [show own_hi [x0, x1, x2, x3] = own_hi4 x0 x1 x2 x3 from rfl, own_hi4, if_pos hc19_38, if_neg hc44_40, if_neg hc44_42, if_pos hc44_44])⟩
          · refine GoesH.step (fun _ k => pw_icmpNo X0.here hx (hb hby d16_44) (flt hc44_44).2.2.1 _ (pw_iinc X0.here hx (l' := #[.val (.ref b1), .val (.int 1), .val (.int 0)]) (hb hby d16_47) rfl rfl _ (pw_goto X0.here hx (pc' := 28) (hb hby d16_50) (by decide) (by decide) _ (pw_iloadN X0.here hx (hb hby d16_28) rfl _ (pw_iloadN X0.here hx (hb hby d16_29) rfl _ (pw_icmpNo X0.here hx (hb hby d16_30) (tlt (by decide)).2.1 _ k)))))) ?_
            refine GoesH.step (fun _ k => pw_aloadN X0.here hx (hb hby d16_33) rfl rfl _ (pw_iloadN X0.here hx (hb hby d16_34) rfl _ (pw_iconst X0.here hx (v := (1 : Int32)) (hb hby d16_35) rfl _ k))) ?_
            refine GoesH.step (B := s₁.setTop (mkF m 37 #[.val (.ref b1), .val (.int 1), .val (.int 0)] [(.int 0), (.ref b1)])) (fun _ k => XS.isub X0.here hx rfl (hb hby d16_36) rfl k) ?_
            obtain ⟨c46, Ar46, -, Sz46, Nn46, Hs46, -⟩ := id V1
            have hin46 : ¬ ((0 : Int32) < 0 ∨ c46.slots.size ≤ ((0 : Int32)).toNatClampNeg) := inb_of Sz46 ⟨by decide, by decide⟩
            refine GoesH.step (B := s₁.setTop (mkF m 38 #[.val (.ref b1), .val (.int 1), .val (.int 0)] [(.int x0)])) (X0.baloadBytes hx (j := (0 : Int32)) (v := (.int x0)) (by rw [e0]; exact Ar46.1) (State.isArrayOf_alike hZ.alike Ar46.2.1) Ar46.2.2 hin46 (Has.at Hs46 hin46 rfl) (g := (mkF m 37 #[.val (.ref b1), .val (.int 1), .val (.int 0)] [(.int 0), (.ref b1)])) rfl rfl (hb hby d16_37)) ?_
            refine GoesH.step (fun _ k => pw_sipush X0.here hx (v := (255 : Int32)) (hb hby d16_38) rfl _ (pw_iand X0.here hx (hb hby d16_41) _ (pw_bipush X0.here hx (v := (32 : Int32)) (hb hby d16_42) rfl _ (pw_icmpYes X0.here hx (pc' := 53) (hb hby d16_44) (tlt hc19_38).2.2.1 (by decide) (by decide) _ k)))) ?_
            exact J1 (1 : Int32) (0 : Int32) ⟨(by rw [show own_lo [x0, x1, x2, x3] = own_lo4 x0 x1 x2 x3 from rfl, own_lo4, if_pos hc19_38]), (by rw [show own_hi [x0, x1, x2, x3] = own_hi4 x0 x1 x2 x3 from rfl, own_hi4, if_pos hc19_38, if_neg hc44_40, if_neg hc44_42, if_neg hc44_44])⟩
    · refine GoesH.step (fun _ k => pw_icmpNo X0.here hx (hb hby d16_19) (flt hc19_38).2.2.1 _ (pw_iinc X0.here hx (l' := #[.val (.ref b1), .val (.int 4), .val (.int 1)]) (hb hby d16_22) rfl rfl _ (pw_goto X0.here hx (pc' := 5) (hb hby d16_25) (by decide) (by decide) _ (pw_iloadN X0.here hx (hb hby d16_5) rfl _ (pw_iloadN X0.here hx (hb hby d16_6) rfl _ (pw_icmpNo X0.here hx (hb hby d16_7) (tlt (by decide)).2.1 _ k)))))) ?_
      refine GoesH.step (fun _ k => pw_aloadN X0.here hx (hb hby d16_10) rfl rfl _ (pw_iloadN X0.here hx (hb hby d16_11) rfl _ k)) ?_
      obtain ⟨c47, Ar47, -, Sz47, Nn47, Hs47, -⟩ := id V1
      have hin47 : ¬ ((1 : Int32) < 0 ∨ c47.slots.size ≤ ((1 : Int32)).toNatClampNeg) := inb_of Sz47 ⟨by decide, by decide⟩
      refine GoesH.step (B := s₁.setTop (mkF m 13 #[.val (.ref b1), .val (.int 4), .val (.int 1)] [(.int x1)])) (X0.baloadBytes hx (j := (1 : Int32)) (v := (.int x1)) (by rw [e0]; exact Ar47.1) (State.isArrayOf_alike hZ.alike Ar47.2.1) Ar47.2.2 hin47 (Has.at Hs47 hin47 rfl) (g := (mkF m 12 #[.val (.ref b1), .val (.int 4), .val (.int 1)] [(.int 1), (.ref b1)])) rfl rfl (hb hby d16_12)) ?_
      refine GoesH.step (fun _ k => pw_sipush X0.here hx (v := (255 : Int32)) (hb hby d16_13) rfl _ (pw_iand X0.here hx (hb hby d16_16) _ (pw_bipush X0.here hx (v := (32 : Int32)) (hb hby d16_17) rfl _ k))) ?_
      by_cases hc19_47 : (32 : Int32) < (x1 &&& (255 : Int32))
      · refine GoesH.step (fun _ k => pw_icmpYes X0.here hx (pc' := 28) (hb hby d16_19) (tlt hc19_47).2.2.1 (by decide) (by decide) _ (pw_iloadN X0.here hx (hb hby d16_28) rfl _ (pw_iloadN X0.here hx (hb hby d16_29) rfl _ (pw_icmpNo X0.here hx (hb hby d16_30) (tlt (by decide)).2.1 _ (pw_aloadN X0.here hx (hb hby d16_33) rfl rfl _ (pw_iloadN X0.here hx (hb hby d16_34) rfl _ k)))))) ?_
        refine GoesH.step (fun _ k => pw_iconst X0.here hx (v := (1 : Int32)) (hb hby d16_35) rfl _ k) ?_
        refine GoesH.step (B := s₁.setTop (mkF m 37 #[.val (.ref b1), .val (.int 4), .val (.int 1)] [(.int 3), (.ref b1)])) (fun _ k => XS.isub X0.here hx rfl (hb hby d16_36) rfl k) ?_
        obtain ⟨c49, Ar49, -, Sz49, Nn49, Hs49, -⟩ := id V1
        have hin49 : ¬ ((3 : Int32) < 0 ∨ c49.slots.size ≤ ((3 : Int32)).toNatClampNeg) := inb_of Sz49 ⟨by decide, by decide⟩
        refine GoesH.step (B := s₁.setTop (mkF m 38 #[.val (.ref b1), .val (.int 4), .val (.int 1)] [(.int x3)])) (X0.baloadBytes hx (j := (3 : Int32)) (v := (.int x3)) (by rw [e0]; exact Ar49.1) (State.isArrayOf_alike hZ.alike Ar49.2.1) Ar49.2.2 hin49 (Has.at Hs49 hin49 rfl) (g := (mkF m 37 #[.val (.ref b1), .val (.int 4), .val (.int 1)] [(.int 3), (.ref b1)])) rfl rfl (hb hby d16_37)) ?_
        refine GoesH.step (fun _ k => pw_sipush X0.here hx (v := (255 : Int32)) (hb hby d16_38) rfl _ (pw_iand X0.here hx (hb hby d16_41) _ (pw_bipush X0.here hx (v := (32 : Int32)) (hb hby d16_42) rfl _ k))) ?_
        by_cases hc44_49 : (32 : Int32) < (x3 &&& (255 : Int32))
        · refine GoesH.step (fun _ k => pw_icmpYes X0.here hx (pc' := 53) (hb hby d16_44) (tlt hc44_49).2.2.1 (by decide) (by decide) _ k) ?_
          exact J1 (4 : Int32) (1 : Int32) ⟨(by rw [show own_lo [x0, x1, x2, x3] = own_lo4 x0 x1 x2 x3 from rfl, own_lo4, if_neg hc19_38, if_pos hc19_47]), (by rw [show own_hi [x0, x1, x2, x3] = own_hi4 x0 x1 x2 x3 from rfl, own_hi4, if_neg hc19_38, if_pos hc19_47, if_pos hc44_49])⟩
        · refine GoesH.step (fun _ k => pw_icmpNo X0.here hx (hb hby d16_44) (flt hc44_49).2.2.1 _ (pw_iinc X0.here hx (l' := #[.val (.ref b1), .val (.int 3), .val (.int 1)]) (hb hby d16_47) rfl rfl _ (pw_goto X0.here hx (pc' := 28) (hb hby d16_50) (by decide) (by decide) _ (pw_iloadN X0.here hx (hb hby d16_28) rfl _ (pw_iloadN X0.here hx (hb hby d16_29) rfl _ (pw_icmpNo X0.here hx (hb hby d16_30) (tlt (by decide)).2.1 _ k)))))) ?_
          refine GoesH.step (fun _ k => pw_aloadN X0.here hx (hb hby d16_33) rfl rfl _ (pw_iloadN X0.here hx (hb hby d16_34) rfl _ (pw_iconst X0.here hx (v := (1 : Int32)) (hb hby d16_35) rfl _ k))) ?_
          refine GoesH.step (B := s₁.setTop (mkF m 37 #[.val (.ref b1), .val (.int 3), .val (.int 1)] [(.int 2), (.ref b1)])) (fun _ k => XS.isub X0.here hx rfl (hb hby d16_36) rfl k) ?_
          obtain ⟨c51, Ar51, -, Sz51, Nn51, Hs51, -⟩ := id V1
          have hin51 : ¬ ((2 : Int32) < 0 ∨ c51.slots.size ≤ ((2 : Int32)).toNatClampNeg) := inb_of Sz51 ⟨by decide, by decide⟩
          refine GoesH.step (B := s₁.setTop (mkF m 38 #[.val (.ref b1), .val (.int 3), .val (.int 1)] [(.int x2)])) (X0.baloadBytes hx (j := (2 : Int32)) (v := (.int x2)) (by rw [e0]; exact Ar51.1) (State.isArrayOf_alike hZ.alike Ar51.2.1) Ar51.2.2 hin51 (Has.at Hs51 hin51 rfl) (g := (mkF m 37 #[.val (.ref b1), .val (.int 3), .val (.int 1)] [(.int 2), (.ref b1)])) rfl rfl (hb hby d16_37)) ?_
          refine GoesH.step (fun _ k => pw_sipush X0.here hx (v := (255 : Int32)) (hb hby d16_38) rfl _ (pw_iand X0.here hx (hb hby d16_41) _ (pw_bipush X0.here hx (v := (32 : Int32)) (hb hby d16_42) rfl _ k))) ?_
          by_cases hc44_51 : (32 : Int32) < (x2 &&& (255 : Int32))
          · refine GoesH.step (fun _ k => pw_icmpYes X0.here hx (pc' := 53) (hb hby d16_44) (tlt hc44_51).2.2.1 (by decide) (by decide) _ k) ?_
            exact J1 (3 : Int32) (1 : Int32) ⟨(by rw [show own_lo [x0, x1, x2, x3] = own_lo4 x0 x1 x2 x3 from rfl, own_lo4, if_neg hc19_38, if_pos hc19_47]), (by rw [show own_hi [x0, x1, x2, x3] = own_hi4 x0 x1 x2 x3 from rfl, own_hi4, if_neg hc19_38, if_pos hc19_47, if_neg hc44_49, if_pos hc44_51])⟩
          · refine GoesH.step (fun _ k => pw_icmpNo X0.here hx (hb hby d16_44) (flt hc44_51).2.2.1 _ (pw_iinc X0.here hx (l' := #[.val (.ref b1), .val (.int 2), .val (.int 1)]) (hb hby d16_47) rfl rfl _ (pw_goto X0.here hx (pc' := 28) (hb hby d16_50) (by decide) (by decide) _ (pw_iloadN X0.here hx (hb hby d16_28) rfl _ (pw_iloadN X0.here hx (hb hby d16_29) rfl _ (pw_icmpNo X0.here hx (hb hby d16_30) (tlt (by decide)).2.1 _ k)))))) ?_
            refine GoesH.step (fun _ k => pw_aloadN X0.here hx (hb hby d16_33) rfl rfl _ (pw_iloadN X0.here hx (hb hby d16_34) rfl _ (pw_iconst X0.here hx (v := (1 : Int32)) (hb hby d16_35) rfl _ k))) ?_
            refine GoesH.step (B := s₁.setTop (mkF m 37 #[.val (.ref b1), .val (.int 2), .val (.int 1)] [(.int 1), (.ref b1)])) (fun _ k => XS.isub X0.here hx rfl (hb hby d16_36) rfl k) ?_
            obtain ⟨c53, Ar53, -, Sz53, Nn53, Hs53, -⟩ := id V1
            have hin53 : ¬ ((1 : Int32) < 0 ∨ c53.slots.size ≤ ((1 : Int32)).toNatClampNeg) := inb_of Sz53 ⟨by decide, by decide⟩
            refine GoesH.step (B := s₁.setTop (mkF m 38 #[.val (.ref b1), .val (.int 2), .val (.int 1)] [(.int x1)])) (X0.baloadBytes hx (j := (1 : Int32)) (v := (.int x1)) (by rw [e0]; exact Ar53.1) (State.isArrayOf_alike hZ.alike Ar53.2.1) Ar53.2.2 hin53 (Has.at Hs53 hin53 rfl) (g := (mkF m 37 #[.val (.ref b1), .val (.int 2), .val (.int 1)] [(.int 1), (.ref b1)])) rfl rfl (hb hby d16_37)) ?_
            refine GoesH.step (fun _ k => pw_sipush X0.here hx (v := (255 : Int32)) (hb hby d16_38) rfl _ (pw_iand X0.here hx (hb hby d16_41) _ (pw_bipush X0.here hx (v := (32 : Int32)) (hb hby d16_42) rfl _ (pw_icmpYes X0.here hx (pc' := 53) (hb hby d16_44) (tlt hc19_47).2.2.1 (by decide) (by decide) _ k)))) ?_
            exact J1 (2 : Int32) (1 : Int32) ⟨(by rw [show own_lo [x0, x1, x2, x3] = own_lo4 x0 x1 x2 x3 from rfl, own_lo4, if_neg hc19_38, if_pos hc19_47]), (by rw [show own_hi [x0, x1, x2, x3] = own_hi4 x0 x1 x2 x3 from rfl, own_hi4, if_neg hc19_38, if_pos hc19_47, if_neg hc44_49, if_neg hc44_51])⟩
      · refine GoesH.step (fun _ k => pw_icmpNo X0.here hx (hb hby d16_19) (flt hc19_47).2.2.1 _ (pw_iinc X0.here hx (l' := #[.val (.ref b1), .val (.int 4), .val (.int 2)]) (hb hby d16_22) rfl rfl _ (pw_goto X0.here hx (pc' := 5) (hb hby d16_25) (by decide) (by decide) _ (pw_iloadN X0.here hx (hb hby d16_5) rfl _ (pw_iloadN X0.here hx (hb hby d16_6) rfl _ (pw_icmpNo X0.here hx (hb hby d16_7) (tlt (by decide)).2.1 _ k)))))) ?_
        refine GoesH.step (fun _ k => pw_aloadN X0.here hx (hb hby d16_10) rfl rfl _ (pw_iloadN X0.here hx (hb hby d16_11) rfl _ k)) ?_
        obtain ⟨c54, Ar54, -, Sz54, Nn54, Hs54, -⟩ := id V1
        have hin54 : ¬ ((2 : Int32) < 0 ∨ c54.slots.size ≤ ((2 : Int32)).toNatClampNeg) := inb_of Sz54 ⟨by decide, by decide⟩
        refine GoesH.step (B := s₁.setTop (mkF m 13 #[.val (.ref b1), .val (.int 4), .val (.int 2)] [(.int x2)])) (X0.baloadBytes hx (j := (2 : Int32)) (v := (.int x2)) (by rw [e0]; exact Ar54.1) (State.isArrayOf_alike hZ.alike Ar54.2.1) Ar54.2.2 hin54 (Has.at Hs54 hin54 rfl) (g := (mkF m 12 #[.val (.ref b1), .val (.int 4), .val (.int 2)] [(.int 2), (.ref b1)])) rfl rfl (hb hby d16_12)) ?_
        refine GoesH.step (fun _ k => pw_sipush X0.here hx (v := (255 : Int32)) (hb hby d16_13) rfl _ (pw_iand X0.here hx (hb hby d16_16) _ (pw_bipush X0.here hx (v := (32 : Int32)) (hb hby d16_17) rfl _ k))) ?_
        by_cases hc19_54 : (32 : Int32) < (x2 &&& (255 : Int32))
        · refine GoesH.step (fun _ k => pw_icmpYes X0.here hx (pc' := 28) (hb hby d16_19) (tlt hc19_54).2.2.1 (by decide) (by decide) _ (pw_iloadN X0.here hx (hb hby d16_28) rfl _ (pw_iloadN X0.here hx (hb hby d16_29) rfl _ (pw_icmpNo X0.here hx (hb hby d16_30) (tlt (by decide)).2.1 _ (pw_aloadN X0.here hx (hb hby d16_33) rfl rfl _ (pw_iloadN X0.here hx (hb hby d16_34) rfl _ k)))))) ?_
          refine GoesH.step (fun _ k => pw_iconst X0.here hx (v := (1 : Int32)) (hb hby d16_35) rfl _ k) ?_
          refine GoesH.step (B := s₁.setTop (mkF m 37 #[.val (.ref b1), .val (.int 4), .val (.int 2)] [(.int 3), (.ref b1)])) (fun _ k => XS.isub X0.here hx rfl (hb hby d16_36) rfl k) ?_
          obtain ⟨c56, Ar56, -, Sz56, Nn56, Hs56, -⟩ := id V1
          have hin56 : ¬ ((3 : Int32) < 0 ∨ c56.slots.size ≤ ((3 : Int32)).toNatClampNeg) := inb_of Sz56 ⟨by decide, by decide⟩
          refine GoesH.step (B := s₁.setTop (mkF m 38 #[.val (.ref b1), .val (.int 4), .val (.int 2)] [(.int x3)])) (X0.baloadBytes hx (j := (3 : Int32)) (v := (.int x3)) (by rw [e0]; exact Ar56.1) (State.isArrayOf_alike hZ.alike Ar56.2.1) Ar56.2.2 hin56 (Has.at Hs56 hin56 rfl) (g := (mkF m 37 #[.val (.ref b1), .val (.int 4), .val (.int 2)] [(.int 3), (.ref b1)])) rfl rfl (hb hby d16_37)) ?_
          refine GoesH.step (fun _ k => pw_sipush X0.here hx (v := (255 : Int32)) (hb hby d16_38) rfl _ (pw_iand X0.here hx (hb hby d16_41) _ (pw_bipush X0.here hx (v := (32 : Int32)) (hb hby d16_42) rfl _ k))) ?_
          by_cases hc44_56 : (32 : Int32) < (x3 &&& (255 : Int32))
          · refine GoesH.step (fun _ k => pw_icmpYes X0.here hx (pc' := 53) (hb hby d16_44) (tlt hc44_56).2.2.1 (by decide) (by decide) _ k) ?_
            exact J1 (4 : Int32) (2 : Int32) ⟨(by rw [show own_lo [x0, x1, x2, x3] = own_lo4 x0 x1 x2 x3 from rfl, own_lo4, if_neg hc19_38, if_neg hc19_47, if_pos hc19_54]), (by rw [show own_hi [x0, x1, x2, x3] = own_hi4 x0 x1 x2 x3 from rfl, own_hi4, if_neg hc19_38, if_neg hc19_47, if_pos hc19_54, if_pos hc44_56])⟩
          · refine GoesH.step (fun _ k => pw_icmpNo X0.here hx (hb hby d16_44) (flt hc44_56).2.2.1 _ (pw_iinc X0.here hx (l' := #[.val (.ref b1), .val (.int 3), .val (.int 2)]) (hb hby d16_47) rfl rfl _ (pw_goto X0.here hx (pc' := 28) (hb hby d16_50) (by decide) (by decide) _ (pw_iloadN X0.here hx (hb hby d16_28) rfl _ (pw_iloadN X0.here hx (hb hby d16_29) rfl _ (pw_icmpNo X0.here hx (hb hby d16_30) (tlt (by decide)).2.1 _ k)))))) ?_
            refine GoesH.step (fun _ k => pw_aloadN X0.here hx (hb hby d16_33) rfl rfl _ (pw_iloadN X0.here hx (hb hby d16_34) rfl _ (pw_iconst X0.here hx (v := (1 : Int32)) (hb hby d16_35) rfl _ k))) ?_
            refine GoesH.step (B := s₁.setTop (mkF m 37 #[.val (.ref b1), .val (.int 3), .val (.int 2)] [(.int 2), (.ref b1)])) (fun _ k => XS.isub X0.here hx rfl (hb hby d16_36) rfl k) ?_
            obtain ⟨c58, Ar58, -, Sz58, Nn58, Hs58, -⟩ := id V1
            have hin58 : ¬ ((2 : Int32) < 0 ∨ c58.slots.size ≤ ((2 : Int32)).toNatClampNeg) := inb_of Sz58 ⟨by decide, by decide⟩
            refine GoesH.step (B := s₁.setTop (mkF m 38 #[.val (.ref b1), .val (.int 3), .val (.int 2)] [(.int x2)])) (X0.baloadBytes hx (j := (2 : Int32)) (v := (.int x2)) (by rw [e0]; exact Ar58.1) (State.isArrayOf_alike hZ.alike Ar58.2.1) Ar58.2.2 hin58 (Has.at Hs58 hin58 rfl) (g := (mkF m 37 #[.val (.ref b1), .val (.int 3), .val (.int 2)] [(.int 2), (.ref b1)])) rfl rfl (hb hby d16_37)) ?_
            refine GoesH.step (fun _ k => pw_sipush X0.here hx (v := (255 : Int32)) (hb hby d16_38) rfl _ (pw_iand X0.here hx (hb hby d16_41) _ (pw_bipush X0.here hx (v := (32 : Int32)) (hb hby d16_42) rfl _ (pw_icmpYes X0.here hx (pc' := 53) (hb hby d16_44) (tlt hc19_54).2.2.1 (by decide) (by decide) _ k)))) ?_
            exact J1 (3 : Int32) (2 : Int32) ⟨(by rw [show own_lo [x0, x1, x2, x3] = own_lo4 x0 x1 x2 x3 from rfl, own_lo4, if_neg hc19_38, if_neg hc19_47, if_pos hc19_54]), (by rw [show own_hi [x0, x1, x2, x3] = own_hi4 x0 x1 x2 x3 from rfl, own_hi4, if_neg hc19_38, if_neg hc19_47, if_pos hc19_54, if_neg hc44_56])⟩
        · refine GoesH.step (fun _ k => pw_icmpNo X0.here hx (hb hby d16_19) (flt hc19_54).2.2.1 _ (pw_iinc X0.here hx (l' := #[.val (.ref b1), .val (.int 4), .val (.int 3)]) (hb hby d16_22) rfl rfl _ (pw_goto X0.here hx (pc' := 5) (hb hby d16_25) (by decide) (by decide) _ (pw_iloadN X0.here hx (hb hby d16_5) rfl _ (pw_iloadN X0.here hx (hb hby d16_6) rfl _ (pw_icmpNo X0.here hx (hb hby d16_7) (tlt (by decide)).2.1 _ k)))))) ?_
          refine GoesH.step (fun _ k => pw_aloadN X0.here hx (hb hby d16_10) rfl rfl _ (pw_iloadN X0.here hx (hb hby d16_11) rfl _ k)) ?_
          obtain ⟨c59, Ar59, -, Sz59, Nn59, Hs59, -⟩ := id V1
          have hin59 : ¬ ((3 : Int32) < 0 ∨ c59.slots.size ≤ ((3 : Int32)).toNatClampNeg) := inb_of Sz59 ⟨by decide, by decide⟩
          refine GoesH.step (B := s₁.setTop (mkF m 13 #[.val (.ref b1), .val (.int 4), .val (.int 3)] [(.int x3)])) (X0.baloadBytes hx (j := (3 : Int32)) (v := (.int x3)) (by rw [e0]; exact Ar59.1) (State.isArrayOf_alike hZ.alike Ar59.2.1) Ar59.2.2 hin59 (Has.at Hs59 hin59 rfl) (g := (mkF m 12 #[.val (.ref b1), .val (.int 4), .val (.int 3)] [(.int 3), (.ref b1)])) rfl rfl (hb hby d16_12)) ?_
          refine GoesH.step (fun _ k => pw_sipush X0.here hx (v := (255 : Int32)) (hb hby d16_13) rfl _ (pw_iand X0.here hx (hb hby d16_16) _ (pw_bipush X0.here hx (v := (32 : Int32)) (hb hby d16_17) rfl _ k))) ?_
          by_cases hc19_59 : (32 : Int32) < (x3 &&& (255 : Int32))
          · refine GoesH.step (fun _ k => pw_icmpYes X0.here hx (pc' := 28) (hb hby d16_19) (tlt hc19_59).2.2.1 (by decide) (by decide) _ (pw_iloadN X0.here hx (hb hby d16_28) rfl _ (pw_iloadN X0.here hx (hb hby d16_29) rfl _ (pw_icmpNo X0.here hx (hb hby d16_30) (tlt (by decide)).2.1 _ (pw_aloadN X0.here hx (hb hby d16_33) rfl rfl _ (pw_iloadN X0.here hx (hb hby d16_34) rfl _ k)))))) ?_
            refine GoesH.step (fun _ k => pw_iconst X0.here hx (v := (1 : Int32)) (hb hby d16_35) rfl _ k) ?_
            refine GoesH.step (B := s₁.setTop (mkF m 37 #[.val (.ref b1), .val (.int 4), .val (.int 3)] [(.int 3), (.ref b1)])) (fun _ k => XS.isub X0.here hx rfl (hb hby d16_36) rfl k) ?_
            obtain ⟨c61, Ar61, -, Sz61, Nn61, Hs61, -⟩ := id V1
            have hin61 : ¬ ((3 : Int32) < 0 ∨ c61.slots.size ≤ ((3 : Int32)).toNatClampNeg) := inb_of Sz61 ⟨by decide, by decide⟩
            refine GoesH.step (B := s₁.setTop (mkF m 38 #[.val (.ref b1), .val (.int 4), .val (.int 3)] [(.int x3)])) (X0.baloadBytes hx (j := (3 : Int32)) (v := (.int x3)) (by rw [e0]; exact Ar61.1) (State.isArrayOf_alike hZ.alike Ar61.2.1) Ar61.2.2 hin61 (Has.at Hs61 hin61 rfl) (g := (mkF m 37 #[.val (.ref b1), .val (.int 4), .val (.int 3)] [(.int 3), (.ref b1)])) rfl rfl (hb hby d16_37)) ?_
            refine GoesH.step (fun _ k => pw_sipush X0.here hx (v := (255 : Int32)) (hb hby d16_38) rfl _ (pw_iand X0.here hx (hb hby d16_41) _ (pw_bipush X0.here hx (v := (32 : Int32)) (hb hby d16_42) rfl _ (pw_icmpYes X0.here hx (pc' := 53) (hb hby d16_44) (tlt hc19_59).2.2.1 (by decide) (by decide) _ k)))) ?_
            exact J1 (4 : Int32) (3 : Int32) ⟨(by rw [show own_lo [x0, x1, x2, x3] = own_lo4 x0 x1 x2 x3 from rfl, own_lo4, if_neg hc19_38, if_neg hc19_47, if_neg hc19_54, if_pos hc19_59]), (by rw [show own_hi [x0, x1, x2, x3] = own_hi4 x0 x1 x2 x3 from rfl, own_hi4, if_neg hc19_38, if_neg hc19_47, if_neg hc19_54, if_pos hc19_59])⟩
          · refine GoesH.step (fun _ k => pw_icmpNo X0.here hx (hb hby d16_19) (flt hc19_59).2.2.1 _ (pw_iinc X0.here hx (l' := #[.val (.ref b1), .val (.int 4), .val (.int 4)]) (hb hby d16_22) rfl rfl _ (pw_goto X0.here hx (pc' := 5) (hb hby d16_25) (by decide) (by decide) _ (pw_iloadN X0.here hx (hb hby d16_5) rfl _ (pw_iloadN X0.here hx (hb hby d16_6) rfl _ (pw_icmpYes X0.here hx (pc' := 28) (hb hby d16_7) (flt (by decide)).2.1 (by decide) (by decide) _ k)))))) ?_
            refine GoesH.step (fun _ k => pw_iloadN X0.here hx (hb hby d16_28) rfl _ (pw_iloadN X0.here hx (hb hby d16_29) rfl _ (pw_icmpYes X0.here hx (pc' := 53) (hb hby d16_30) (flt (by decide)).2.1 (by decide) (by decide) _ k))) ?_
            exact J1 (4 : Int32) (4 : Int32) ⟨(by rw [show own_lo [x0, x1, x2, x3] = own_lo4 x0 x1 x2 x3 from rfl, own_lo4, if_neg hc19_38, if_neg hc19_47, if_neg hc19_54, if_neg hc19_59]), (by rw [show own_hi [x0, x1, x2, x3] = own_hi4 x0 x1 x2 x3 from rfl, own_hi4, if_neg hc19_38, if_neg hc19_47, if_neg hc19_54, if_neg hc19_59])⟩
theorem d15_0 : decode jdk_42_method_113_code 0 = .ok (.aload_n 0, 1) := by decide +kernel
theorem d15_1 : decode jdk_42_method_113_code 1 = .ok (.invokevirtual 492, 3) := by decide +kernel
theorem d15_4 : decode jdk_42_method_113_code 4 = .ok (.ifCond .eq 13, 3) := by decide +kernel
theorem d15_7 : decode jdk_42_method_113_code 7 = .ok (.aload_n 0, 1) := by decide +kernel
theorem d15_8 : decode jdk_42_method_113_code 8 = .ok (.getfield 9, 3) := by decide +kernel
theorem d15_11 : decode jdk_42_method_113_code 11 = .ok (.invokestatic 859, 3) := by decide +kernel
theorem own_w76 {Z : State} {a0 : Array Value} (hw : ∀ d ∈ tables_1, d.before a0 Z = true) : (Jvm.Cond.methodLink "java/lang/String" (859 : Nat) ({ cls := "java/lang/StringLatin1", name := "trim", desc := "([B)Ljava/lang/String;" } : Jvm.MethodName)).before a0 Z = true := hw _ (List.mem_of_getElem? (i := 76) rfl)
theorem own_w78 {Z : State} {a0 : Array Value} (hw : ∀ d ∈ tables_1, d.before a0 Z = true) : (Jvm.Cond.code ({ cls := "java/lang/StringLatin1", name := "trim", desc := "([B)Ljava/lang/String;" } : Jvm.MethodName) jdk_43_method_36_code (3 : Nat) (Option.some (Jvm.ClassFile.FieldType.object "java/lang/String"))).before a0 Z = true := hw _ (List.mem_of_getElem? (i := 78) rfl)
theorem pd_18 : parseMethodDescriptor "([B)Ljava/lang/String;" = some ⟨[(.array .byte)], some (.object "java/lang/String")⟩ := by decide +kernel
theorem own_w77 {Z : State} {a0 : Array Value} (hw : ∀ d ∈ tables_1, d.before a0 Z = true) : (Jvm.Cond.static ({ cls := "java/lang/StringLatin1", name := "trim", desc := "([B)Ljava/lang/String;" } : Jvm.MethodName)).before a0 Z = true := hw _ (List.mem_of_getElem? (i := 77) rfl)
theorem d15_14 : decode jdk_42_method_113_code 14 = .ok (.goto 10, 3) := by decide +kernel
theorem d15_24 : decode jdk_42_method_113_code 24 = .ok (.astore_n 1, 1) := by decide +kernel
theorem d15_25 : decode jdk_42_method_113_code 25 = .ok (.aload_n 1, 1) := by decide +kernel
theorem d15_26 : decode jdk_42_method_113_code 26 = .ok (.ifnonnull 7, 3) := by decide +kernel
theorem d15_29 : decode jdk_42_method_113_code 29 = .ok (.aload_n 0, 1) := by decide +kernel
theorem d15_30 : decode jdk_42_method_113_code 30 = .ok (.goto 4, 3) := by decide +kernel
theorem d15_34 : decode jdk_42_method_113_code 34 = .ok (.areturn, 1) := by decide +kernel
theorem d15_33 : decode jdk_42_method_113_code 33 = .ok (.aload_n 1, 1) := by decide +kernel
theorem ef_rmTM (m : MethodId) (x0 : Addr) : entryFrame m #[(.ref x0)] 2 = mkF m 0 #[.val (.ref x0), .unset] [] := by first | (simp [entryFrame, mkF, argsToLocals, Value.category]; done) | rfl
def QTM (Z : State) (a1 : Addr) (b1 : Addr) (k1 : ClassId) (z1 : Int32) (xs : List Int32) (cs : Int32) (h0 : Heap) (n0 : Nat) (v : Option Value) (h : Heap) (L : List Loc) : Prop := ∃ (r vb : Addr) (kv : ClassId) (mm : Int32), v = some (.ref r) ∧ Fr n0 L ∧ Keep h0 h [] ∧ mm = own_hi xs - own_lo xs ∧ Exa Z h r "java/lang/String" ∧ Fld Z h r "java/lang/String" "value" "[B" (.ref vb) ∧ Fld Z h r "java/lang/String" "coder" "B" (.int (0 : Int32)) ∧ Arv Z h vb kv .byte mm ((own_sub xs (own_lo xs) mm).map Value.int) (.int (0 : Int32))
set_option maxRecDepth 65536 in
set_option maxHeartbeats 40000000 in
theorem rmTM (l : Launch) (Z : State) (a0 : Array Value) (hw : ∀ d ∈ tables_1, d.before a0 Z = true) (ws : List Jvm.Cond) (a1 : Addr) (b1 : Addr) (k1 : ClassId) (z1 : Int32) (xs : List Int32) (cs : Int32) (h0 : Heap) (n0 : Nat) (O0 : Old Z n0 h0) (Sc : Sta Z h0 "java/lang/String" "COMPACT_STRINGS" "Z" (.int cs)) (hcs : ¬ cs = (0 : Int32)) (E1 : Exa Z h0 a1 "java/lang/String") (Fc1 : Fld Z h0 a1 "java/lang/String" "coder" "B" (.int (0 : Int32))) (Fv1 : Fld Z h0 a1 "java/lang/String" "value" "[B" (.ref b1)) (V1 : Arv Z h0 b1 k1 .byte z1 (xs.map Value.int) (.int (0 : Int32))) (hzl : z1.toNatClampNeg = xs.length) (hz4 : z1.toInt ≤ 4) :
    MetFree l (⟨"java/lang/String", "trim", "()Ljava/lang/String;"⟩ : MethodName) (head1 (Jvm.Cond.code (⟨"java/lang/String", "trim", "()Ljava/lang/String;"⟩ : MethodName) jdk_42_method_113_code 2 (some (.object "java/lang/String")) :: ws) ({ frames := 5, cells := 2, slots := 9, locals := 78 } : Room)) (fun a U => a = #[(.ref a1)] ∧ Z.Warmed39 U.vm ∧ U.heap = h0 ∧ CHv Z own_EL U.vm h0) (fun _ _ _ _ _ => True) (fun _ U o U' => ∃ v L, o = .returned v ∧ QTM Z a1 b1 k1 z1 xs cs h0 n0 v U'.heap L ∧ CHr Z own_EL U.vm U.heap U'.vm U'.heap ∧ ReturnedEndW U o U' L ({ frames := 5, cells := 2, slots := 9, locals := 78 } : Room).cells ({ frames := 5, cells := 2, slots := 9, locals := 78 } : Room).slots) := by
  refine MetFree.of_bodySF (plainFor_of_name pn_String) hisR ?_
  intro p e s m args below meth c s₁ Bd hml0 hP hK
  obtain ⟨rfl, hZ, hh, hH0⟩ := hP
  have hx := Bd.exec
  have hby := Bd.bytes
  have hlk : meth.locks = false := BodyLoose.notSynchronized Bd
  have hml : c.maxLocals = 2 := hml0
  have hown : s.vm.findClass "java/lang/String" = some m.cls := findClass_of_methodNamed Bd.named
  have hnm := (name_of_methodNamed Bd.named Bd.method).1
  have X0 : Stand p l e ({ frames := 5, cells := 2, slots := 9, locals := 78 } : Room) (s.setVm s.vm) m #[(.ref a1)] below meth c s₁ [] 0 0 := Stand.of_body Bd
  have e0 : s₁.heap = h0 := by rw [← hh, Bd.state]; rfl
  have N0 := Fr.nil n0
  have hS0 : s.Since s.vm h0.size := (State.WarmedH.refl s).since _
  show GoesH p e below s Z own_EL (QTM Z a1 b1 k1 z1 xs cs h0 n0) ({ frames := 5, cells := 2, slots := 9, locals := 78 } : Room).cells ({ frames := 5, cells := 2, slots := 9, locals := 78 } : Room).slots (s₁.setTop (entryFrame m #[(.ref a1)] 2))
  refine GoesH.enter (g' := (mkF m 0 #[.val (.ref a1), .unset] [])) (ef_rmTM m a1) ?_
  refine GoesH.step (fun _ k => pw_aloadN X0.here hx (hb hby d15_0) rfl rfl _ k) ?_
  obtain ⟨cq1, kq1, qa1, qb1, qc1⟩ := isOf hZ e0 E1
  obtain ⟨_, _, ⟨T1, L1, k1, n1⟩, -, X1, ⟨Lc1, hQ1, l1, y1, z1⟩, st1⟩ := X0.virtualBack hx (y := (⟨"java/lang/String", "isLatin1", "()Z"⟩ : MethodName)) (z := (⟨"java/lang/String", "isLatin1", "()Z"⟩ : MethodName)) hown (mvT hZ (own_w41 hw)) (mvT hZ (own_w42 hw)) (notFace_of_selects (args := #[]) (mvT hZ (own_w44 hw))) (mvT hZ (own_w44 hw)) (mvT hZ (own_w43 hw)) (by decide) (backOf (W := 0) (rm8 l Z a0 hw [] a1 b1 k1 z1 xs cs h0 n0 O0 Sc hcs E1 Fc1 Fv1 V1) hZ (own_w45 hw) (own_w8 hw) (by decide) (by decide)) qa1 qc1 (g := (mkF m 1 #[.val (.ref a1), .unset] [(.ref a1)])) rfl (by rw [hml]; rfl) (Steps.refl _) (argsL := []) (rest := []) (lenOf pd_7 rfl) rfl (by show 2 * 0 + _ ≤ _; exact Nat.le_of_eq rfl) (hb hby d15_1) (fun _ _ => ⟨rfl, e0, (by decide : 0 + 0 ≤ _), (by decide : 0 + 0 ≤ _)⟩)
  dsimp only [Pt.U, Pt.locs, Pt.cells, Pt.slots] at X1 l1 y1 z1 st1 hQ1
  subst l1 y1 z1
  obtain ⟨rfl, Nq1, eh1⟩ := hQ1
  have N1 := Fr.app N0 Nq1
  refine GoesH.via (B := T1.setTop (mkF m 4 #[.val (.ref a1), .unset] [(.int 1)])) st1 ?_
  refine GoesH.step (fun _ k => pw_ifNo X1.here hx (hb hby d15_4) ((if0 _ _).trans (feq (by decide)).1) _ (pw_aloadN X1.here hx (hb hby d15_7) rfl rfl _ k)) ?_
  obtain ⟨T2, X2, e2, st2⟩ := getF X1 hx hZ hown (host := "") (Or.inl (own_w25 hw)) Via.refl eh1 Fv1 (g := (mkF m 8 #[.val (.ref a1), .unset] [(.ref a1)])) rfl rfl (hb hby d15_8)
  refine GoesH.step (B := T2.setTop (mkF m 11 #[.val (.ref a1), .unset] [(.ref b1)])) st2 ?_
  obtain ⟨_, vw3, ⟨T3, L3, k3, n3⟩, -, Xr3, S23, sz3, ⟨Lc3, hQ3, l3, y3, z3, Hc3⟩, st3⟩ := callSS X2 hx (y := (⟨"java/lang/StringLatin1", "trim", "([B)Ljava/lang/String;"⟩ : MethodName)) hown (mvT hZ (own_w76 hw)) (mvT hZ (own_w77 hw)) (mvT hZ (own_w59 hw)) (mvT hZ (own_w78 hw)) (by decide) (backOfSH (W := 0) (rmTR l Z a0 hw [] b1 k1 z1 xs h0 n0 O0 V1 hzl hz4) hZ (own_w78 hw) (own_w59 hw) (by decide) (by decide) (own_EW hw) (CHr.refl hH0).1) (g := (mkF m 11 #[.val (.ref a1), .unset] [(.ref b1)])) rfl (by rw [hml]; rfl) (argsL := [(.ref b1)]) (rest := []) (lenOf pd_18 rfl) rfl (by show 2 * 0 + _ ≤ _; exact Nat.le_of_eq rfl) (hb hby d15_11) (fun _ _ => ⟨rfl, e2, (by decide : 0 + 2 ≤ _), (by decide : 0 + 9 ≤ _)⟩)
  dsimp only [Pt.U, Pt.locs, Pt.cells, Pt.slots] at Xr3 S23 sz3 l3 y3 z3 st3 hQ3 Hc3
  subst l3 y3 z3
  obtain ⟨X3, hS3, hZ3, hown3⟩ := rebS hS0 (by rw [e2]; exact (Nat.le_refl _)) Xr3 S23 sz3 hZ hown
  have CHc3 := (CHr.refl hH0).trans Hc3
  obtain ⟨wv3, rfl, Nq3, Kp3, hd3⟩ := hQ3
  have O_3 := O0.keep Kp3 all0
  have K_3 := (Keep.refl h0 []).trans Kp3 all0
  have N3 := Fr.app N1 Nq3
  refine GoesH.via (B := T3.setTop (mkF m 14 #[.val (.ref a1), .unset] [wv3])) st3 ?_
  rcases hd3 with ⟨rfl, hl1, hl2⟩ | ⟨nr3, nv3, nk3, nm3, rfl, hnm3, Er3, Fv3, Fc3, Vr3⟩
  · refine GoesH.step (fun _ k => pw_goto X3.here hx (pc' := 24) (hb hby d15_14) (by decide) (by decide) _ (pw_astoreN X3.here hx (l' := #[.val (.ref a1), .val .null]) (hb hby d15_24) rfl rfl _ (pw_aloadN X3.here hx (hb hby d15_25) rfl rfl _ k))) ?_
    refine GoesH.step (B := T3.setTop (mkF m 29 #[.val (.ref a1), .val .null] [])) (fun _ k => XS.ifnonnullNo X3.here hx rfl (hb hby d15_26) rfl k) ?_
    refine GoesH.step (fun _ k => pw_aloadN X3.here hx (hb hby d15_29) rfl rfl _ (pw_goto X3.here hx (pc' := 34) (hb hby d15_30) (by decide) (by decide) _ k)) ?_
    have f4 := (E1.keep Kp3)
    have f5 := (Fv1.keep Kp3 nin0)
    have f6 := (Fc1.keep Kp3 nin0)
    have f7 := (V1.keep Kp3 nin0)
    exact GoesH.retA X3 hS3 (Nat.le_refl _) hZ3 (own_EW hw) (by rw [show s.heap = h0 from hh]; exact CHc3) hx rfl Bd.returns rfl rfl hlk (hb hby d15_34) (by decide) (by decide) (⟨a1, b1, k1, z1, rfl, N3, K_3, (by rw [hl1, hl2, own_z0]), f4, f5, f6, (by rw [hl1, own_suba _ _ hzl]; exact f7)⟩)
  · refine GoesH.step (fun _ k => pw_goto X3.here hx (pc' := 24) (hb hby d15_14) (by decide) (by decide) _ (pw_astoreN X3.here hx (l' := #[.val (.ref a1), .val (.ref nr3)]) (hb hby d15_24) rfl rfl _ (pw_aloadN X3.here hx (hb hby d15_25) rfl rfl _ k))) ?_
    refine GoesH.step (B := T3.setTop (mkF m 33 #[.val (.ref a1), .val (.ref nr3)] [])) (fun _ k => XS.ifnonnullYes X3.here hx rfl (pc0 := 26) (pc' := 33) rfl (hb hby d15_26) rfl (by decide) (by decide) k) ?_
    refine GoesH.step (fun _ k => pw_aloadN X3.here hx (hb hby d15_33) rfl rfl _ k) ?_
    exact GoesH.retA X3 hS3 (Nat.le_refl _) hZ3 (own_EW hw) (by rw [show s.heap = h0 from hh]; exact CHc3) hx rfl Bd.returns rfl rfl hlk (hb hby d15_34) (by decide) (by decide) (⟨nr3, nv3, nk3, nm3, rfl, N3, K_3, hnm3, Er3, Fv3, Fc3, Vr3⟩)
theorem d5_0 : decode prog_8_method_2_code 0 = .ok (.aload_n 0, 1) := by decide +kernel
theorem d5_1 : decode prog_8_method_2_code 1 = .ok (.bipush 59, 2) := by decide +kernel
theorem d5_3 : decode prog_8_method_2_code 3 = .ok (.invokevirtual 17, 3) := by decide +kernel
theorem own_w31 {Z : State} {a0 : Array Value} (hw : ∀ d ∈ tables_1, d.before a0 Z = true) : (Jvm.Cond.methodLink "com/example/partwright/partwright/reader/HeaderValue" (17 : Nat) ({ cls := "java/lang/String", name := "indexOf", desc := "(I)I" } : Jvm.MethodName)).before a0 Z = true := hw _ (List.mem_of_getElem? (i := 31) rfl)
theorem own_w35 {Z : State} {a0 : Array Value} (hw : ∀ d ∈ tables_1, d.before a0 Z = true) : (Jvm.Cond.code ({ cls := "java/lang/String", name := "indexOf", desc := "(I)I" } : Jvm.MethodName) jdk_42_method_79_code (2 : Nat) (Option.some Jvm.ClassFile.FieldType.int)).before a0 Z = true := hw _ (List.mem_of_getElem? (i := 35) rfl)
theorem pd_19 : parseMethodDescriptor "(I)I" = some ⟨[.int], some .int⟩ := by decide +kernel
theorem own_w34 {Z : State} {a0 : Array Value} (hw : ∀ d ∈ tables_1, d.before a0 Z = true) : (Jvm.Cond.selects "java/lang/String" ({ cls := "java/lang/String", name := "indexOf", desc := "(I)I" } : Jvm.MethodName) ({ cls := "java/lang/String", name := "indexOf", desc := "(I)I" } : Jvm.MethodName)).before a0 Z = true := hw _ (List.mem_of_getElem? (i := 34) rfl)
theorem own_w32 {Z : State} {a0 : Array Value} (hw : ∀ d ∈ tables_1, d.before a0 Z = true) : (Jvm.Cond.declares ({ cls := "java/lang/String", name := "indexOf", desc := "(I)I" } : Jvm.MethodName)).before a0 Z = true := hw _ (List.mem_of_getElem? (i := 32) rfl)
theorem own_w33 {Z : State} {a0 : Array Value} (hw : ∀ d ∈ tables_1, d.before a0 Z = true) : (Jvm.Cond.instanceMethod ({ cls := "java/lang/String", name := "indexOf", desc := "(I)I" } : Jvm.MethodName)).before a0 Z = true := hw _ (List.mem_of_getElem? (i := 33) rfl)
theorem d5_6 : decode prog_8_method_2_code 6 = .ok (.istore_n 1, 1) := by decide +kernel
theorem d5_7 : decode prog_8_method_2_code 7 = .ok (.iload_n 1, 1) := by decide +kernel
theorem d5_8 : decode prog_8_method_2_code 8 = .ok (.ifCond .ge 7, 3) := by decide +kernel
theorem d5_11 : decode prog_8_method_2_code 11 = .ok (.aload_n 0, 1) := by decide +kernel
theorem d5_12 : decode prog_8_method_2_code 12 = .ok (.goto 9, 3) := by decide +kernel
theorem d5_21 : decode prog_8_method_2_code 21 = .ok (.astore_n 2, 1) := by decide +kernel
theorem d5_22 : decode prog_8_method_2_code 22 = .ok (.aload_n 2, 1) := by decide +kernel
theorem d5_23 : decode prog_8_method_2_code 23 = .ok (.invokevirtual 27, 3) := by decide +kernel
theorem own_w71 {Z : State} {a0 : Array Value} (hw : ∀ d ∈ tables_1, d.before a0 Z = true) : (Jvm.Cond.methodLink "com/example/partwright/partwright/reader/HeaderValue" (27 : Nat) ({ cls := "java/lang/String", name := "trim", desc := "()Ljava/lang/String;" } : Jvm.MethodName)).before a0 Z = true := hw _ (List.mem_of_getElem? (i := 71) rfl)
theorem own_w75 {Z : State} {a0 : Array Value} (hw : ∀ d ∈ tables_1, d.before a0 Z = true) : (Jvm.Cond.code ({ cls := "java/lang/String", name := "trim", desc := "()Ljava/lang/String;" } : Jvm.MethodName) jdk_42_method_113_code (2 : Nat) (Option.some (Jvm.ClassFile.FieldType.object "java/lang/String"))).before a0 Z = true := hw _ (List.mem_of_getElem? (i := 75) rfl)
theorem pd_20 : parseMethodDescriptor "()Ljava/lang/String;" = some ⟨[], some (.object "java/lang/String")⟩ := by decide +kernel
theorem own_w74 {Z : State} {a0 : Array Value} (hw : ∀ d ∈ tables_1, d.before a0 Z = true) : (Jvm.Cond.selects "java/lang/String" ({ cls := "java/lang/String", name := "trim", desc := "()Ljava/lang/String;" } : Jvm.MethodName) ({ cls := "java/lang/String", name := "trim", desc := "()Ljava/lang/String;" } : Jvm.MethodName)).before a0 Z = true := hw _ (List.mem_of_getElem? (i := 74) rfl)
theorem own_w72 {Z : State} {a0 : Array Value} (hw : ∀ d ∈ tables_1, d.before a0 Z = true) : (Jvm.Cond.declares ({ cls := "java/lang/String", name := "trim", desc := "()Ljava/lang/String;" } : Jvm.MethodName)).before a0 Z = true := hw _ (List.mem_of_getElem? (i := 72) rfl)
theorem own_w73 {Z : State} {a0 : Array Value} (hw : ∀ d ∈ tables_1, d.before a0 Z = true) : (Jvm.Cond.instanceMethod ({ cls := "java/lang/String", name := "trim", desc := "()Ljava/lang/String;" } : Jvm.MethodName)).before a0 Z = true := hw _ (List.mem_of_getElem? (i := 73) rfl)
theorem d5_26 : decode prog_8_method_2_code 26 = .ok (.areturn, 1) := by decide +kernel
theorem d5_15 : decode prog_8_method_2_code 15 = .ok (.aload_n 0, 1) := by decide +kernel
theorem d5_16 : decode prog_8_method_2_code 16 = .ok (.iconst 0, 1) := by decide +kernel
theorem d5_17 : decode prog_8_method_2_code 17 = .ok (.iload_n 1, 1) := by decide +kernel
theorem d5_18 : decode prog_8_method_2_code 18 = .ok (.invokevirtual 23, 3) := by decide +kernel
theorem own_w96 {Z : State} {a0 : Array Value} (hw : ∀ d ∈ tables_1, d.before a0 Z = true) : (Jvm.Cond.methodLink "com/example/partwright/partwright/reader/HeaderValue" (23 : Nat) ({ cls := "java/lang/String", name := "substring", desc := "(II)Ljava/lang/String;" } : Jvm.MethodName)).before a0 Z = true := hw _ (List.mem_of_getElem? (i := 96) rfl)
theorem own_w100 {Z : State} {a0 : Array Value} (hw : ∀ d ∈ tables_1, d.before a0 Z = true) : (Jvm.Cond.code ({ cls := "java/lang/String", name := "substring", desc := "(II)Ljava/lang/String;" } : Jvm.MethodName) jdk_42_method_92_code (5 : Nat) (Option.some (Jvm.ClassFile.FieldType.object "java/lang/String"))).before a0 Z = true := hw _ (List.mem_of_getElem? (i := 100) rfl)
theorem pd_21 : parseMethodDescriptor "(II)Ljava/lang/String;" = some ⟨[.int, .int], some (.object "java/lang/String")⟩ := by decide +kernel
theorem own_w99 {Z : State} {a0 : Array Value} (hw : ∀ d ∈ tables_1, d.before a0 Z = true) : (Jvm.Cond.selects "java/lang/String" ({ cls := "java/lang/String", name := "substring", desc := "(II)Ljava/lang/String;" } : Jvm.MethodName) ({ cls := "java/lang/String", name := "substring", desc := "(II)Ljava/lang/String;" } : Jvm.MethodName)).before a0 Z = true := hw _ (List.mem_of_getElem? (i := 99) rfl)
theorem own_w97 {Z : State} {a0 : Array Value} (hw : ∀ d ∈ tables_1, d.before a0 Z = true) : (Jvm.Cond.declares ({ cls := "java/lang/String", name := "substring", desc := "(II)Ljava/lang/String;" } : Jvm.MethodName)).before a0 Z = true := hw _ (List.mem_of_getElem? (i := 97) rfl)
theorem own_w98 {Z : State} {a0 : Array Value} (hw : ∀ d ∈ tables_1, d.before a0 Z = true) : (Jvm.Cond.instanceMethod ({ cls := "java/lang/String", name := "substring", desc := "(II)Ljava/lang/String;" } : Jvm.MethodName)).before a0 Z = true := hw _ (List.mem_of_getElem? (i := 98) rfl)
theorem pn_HeaderValue : plainName "com/example/partwright/partwright/reader/HeaderValue" = true := by first | (simp [plainName, overriddenIn]; done) | decide +kernel
theorem ef_rmTY (m : MethodId) (x0 : Addr) : entryFrame m #[(.ref x0)] 3 = mkF m 0 #[.val (.ref x0), .unset, .unset] [] := by first | (simp [entryFrame, mkF, argsToLocals, Value.category]; done) | rfl
def QTY (Z : State) (a1 : Addr) (b1 : Addr) (k1 : ClassId) (z1 : Int32) (xs : List Int32) (cs : Int32) (fm : Value) (h0 : Heap) (n0 : Nat) (v : Option Value) (h : Heap) (L : List Loc) : Prop := ∃ (r vb : Addr) (kv : ClassId) (mm : Int32), v = some (.ref r) ∧ Fr n0 L ∧ Keep h0 h [] ∧ mm = own_hi (own_ys xs) - own_lo (own_ys xs) ∧ Exa Z h r "java/lang/String" ∧ Fld Z h r "java/lang/String" "value" "[B" (.ref vb) ∧ Fld Z h r "java/lang/String" "coder" "B" (.int (0 : Int32)) ∧ Arv Z h vb kv .byte mm ((own_sub (own_ys xs) (own_lo (own_ys xs)) mm).map Value.int) (.int (0 : Int32))
set_option maxRecDepth 65536 in
set_option maxHeartbeats 40000000 in
theorem rmTY (l : Launch) (Z : State) (a0 : Array Value) (hw : ∀ d ∈ tables_1, d.before a0 Z = true) (ws : List Jvm.Cond) (a1 : Addr) (b1 : Addr) (k1 : ClassId) (z1 : Int32) (xs : List Int32) (cs : Int32) (fm : Value) (h0 : Heap) (n0 : Nat) (O0 : Old Z n0 h0) (FS : OwnSt Z cs fm) (E1 : Exa Z h0 a1 "java/lang/String") (Fc1 : Fld Z h0 a1 "java/lang/String" "coder" "B" (.int (0 : Int32))) (Fv1 : Fld Z h0 a1 "java/lang/String" "value" "[B" (.ref b1)) (V1 : Arv Z h0 b1 k1 .byte z1 (xs.map Value.int) (.int (0 : Int32))) (hzl : z1.toNatClampNeg = xs.length) (hz4 : z1.toInt ≤ 4) :
    MetFree l (⟨"com/example/partwright/partwright/reader/HeaderValue", "typeOf", "(Ljava/lang/String;)Ljava/lang/String;"⟩ : MethodName) (head1 (Jvm.Cond.code (⟨"com/example/partwright/partwright/reader/HeaderValue", "typeOf", "(Ljava/lang/String;)Ljava/lang/String;"⟩ : MethodName) prog_8_method_2_code 3 (some (.object "java/lang/String")) :: ws) ({ frames := 6, cells := 4, slots := 18, locals := 91 } : Room)) (fun a U => a = #[(.ref a1)] ∧ Z.Warmed39 U.vm ∧ U.heap = h0 ∧ CHv Z own_EL U.vm h0) (fun _ _ _ _ _ => True) (fun _ U o U' => ∃ v L, o = .returned v ∧ QTY Z a1 b1 k1 z1 xs cs fm h0 n0 v U'.heap L ∧ CHr Z own_EL U.vm U.heap U'.vm U'.heap ∧ ReturnedEndW U o U' L ({ frames := 6, cells := 4, slots := 18, locals := 91 } : Room).cells ({ frames := 6, cells := 4, slots := 18, locals := 91 } : Room).slots) := by
  refine MetFree.of_bodySF (plainFor_of_name pn_HeaderValue) hisR ?_
  intro p e s m args below meth c s₁ Bd hml0 hP hK
  obtain ⟨rfl, hZ, hh, hH0⟩ := hP
  have hx := Bd.exec
  have hby := Bd.bytes
  have hlk : meth.locks = false := BodyLoose.notSynchronized Bd
  have hml : c.maxLocals = 3 := hml0
  have hown : s.vm.findClass "com/example/partwright/partwright/reader/HeaderValue" = some m.cls := findClass_of_methodNamed Bd.named
  have hnm := (name_of_methodNamed Bd.named Bd.method).1
  have X0 : Stand p l e ({ frames := 6, cells := 4, slots := 18, locals := 91 } : Room) (s.setVm s.vm) m #[(.ref a1)] below meth c s₁ [] 0 0 := Stand.of_body Bd
  have e0 : s₁.heap = h0 := by rw [← hh, Bd.state]; rfl
  have N0 := Fr.nil n0
  have hS0 : s.Since s.vm h0.size := (State.WarmedH.refl s).since _
  show GoesH p e below s Z own_EL (QTY Z a1 b1 k1 z1 xs cs fm h0 n0) ({ frames := 6, cells := 4, slots := 18, locals := 91 } : Room).cells ({ frames := 6, cells := 4, slots := 18, locals := 91 } : Room).slots (s₁.setTop (entryFrame m #[(.ref a1)] 3))
  refine GoesH.enter (g' := (mkF m 0 #[.val (.ref a1), .unset, .unset] [])) (ef_rmTY m a1) ?_
  have FS0 := FS
  obtain ⟨S_COMPACT_STRINGS, hcs, S_fm, hfm⟩ := FS0
  have hz0 : ¬ z1 < 0 := by obtain ⟨_, _, _, _, q, _⟩ := id V1; exact q
  have hib := own_ixb 59 hzl hz4 hz0
  refine GoesH.step (fun _ k => pw_aloadN X0.here hx (hb hby d5_0) rfl rfl _ (pw_bipush X0.here hx (v := (59 : Int32)) (hb hby d5_1) rfl _ k)) ?_
  have f2 := S_COMPACT_STRINGS.ext O0.2
  obtain ⟨cq1, kq1, qa1, qb1, qc1⟩ := isOf hZ e0 E1
  obtain ⟨_, _, ⟨T1, L1, k1, n1⟩, -, X1, ⟨Lc1, hQ1, l1, y1, z1⟩, st1⟩ := X0.virtualBack hx (y := (⟨"java/lang/String", "indexOf", "(I)I"⟩ : MethodName)) (z := (⟨"java/lang/String", "indexOf", "(I)I"⟩ : MethodName)) hown (mvT hZ (own_w31 hw)) (mvT hZ (own_w32 hw)) (notFace_of_selects (args := #[]) (mvT hZ (own_w34 hw))) (mvT hZ (own_w34 hw)) (mvT hZ (own_w33 hw)) (by decide) (backOf (W := 0) (rmIK l Z a0 hw [] a1 b1 k1 z1 xs cs (59 : Int32) h0 n0 O0 f2 hcs E1 Fc1 Fv1 V1 hzl hz4 (by decide) (by decide)) hZ (own_w35 hw) (own_w8 hw) (by decide) (by decide)) qa1 qc1 (g := (mkF m 3 #[.val (.ref a1), .unset, .unset] [(.int 59), (.ref a1)])) rfl (by rw [hml]; rfl) (Steps.refl _) (argsL := [(.int 59)]) (rest := []) (lenOf pd_19 rfl) rfl (by show 2 * 0 + _ ≤ _; exact Nat.le_of_eq rfl) (hb hby d5_3) (fun _ _ => ⟨rfl, e0, (by decide : 0 + 0 ≤ _), (by decide : 0 + 0 ≤ _)⟩)
  dsimp only [Pt.U, Pt.locs, Pt.cells, Pt.slots] at X1 l1 y1 z1 st1 hQ1
  subst l1 y1 z1
  obtain ⟨rfl, Nq1, eh1⟩ := hQ1
  have N1 := Fr.app N0 Nq1
  refine GoesH.via (B := T1.setTop (mkF m 6 #[.val (.ref a1), .unset, .unset] [(.int (own_ixx (59 : Int32) xs))])) st1 ?_
  obtain ⟨ii, hii⟩ : ∃ z, z = (own_ixx (59 : Int32) xs) := ⟨_, rfl⟩
  rw [← hii]
  rw [← hii] at hib
  refine GoesH.step (fun _ k => pw_istoreN X1.here hx (l' := #[.val (.ref a1), .val (.int ii), .unset]) (hb hby d5_6) rfl _ (pw_iloadN X1.here hx (hb hby d5_7) rfl _ k)) ?_
  by_cases hc8_2 : ii < (0 : Int32)
  · refine GoesH.step (fun _ k => pw_ifNo X1.here hx (hb hby d5_8) ((if0 _ _).trans (tlt hc8_2).2.1) _ (pw_aloadN X1.here hx (hb hby d5_11) rfl rfl _ (pw_goto X1.here hx (pc' := 21) (hb hby d5_12) (by decide) (by decide) _ k))) ?_
    have hys : own_ys xs = xs := by rw [own_ys, ← hii, if_pos hc8_2]
    refine GoesH.step (fun _ k => pw_astoreN X1.here hx (l' := #[.val (.ref a1), .val (.int ii), .val (.ref a1)]) (hb hby d5_21) rfl rfl _ (pw_aloadN X1.here hx (hb hby d5_22) rfl rfl _ k)) ?_
    obtain ⟨cq4, kq4, qa4, qb4, qc4⟩ := isOf hZ eh1 E1
    obtain ⟨_, vw4, ⟨T4, L4, k4, n4⟩, -, Xr4, S24, sz4, ⟨Lc4, hQ4, l4, y4, z4, Hc4⟩, st4⟩ := X1.virtualBackS hx (y := (⟨"java/lang/String", "trim", "()Ljava/lang/String;"⟩ : MethodName)) (z := (⟨"java/lang/String", "trim", "()Ljava/lang/String;"⟩ : MethodName)) hown (mvT hZ (own_w71 hw)) (mvT hZ (own_w72 hw)) (notFace_of_selects (args := #[]) (mvT hZ (own_w74 hw))) (mvT hZ (own_w74 hw)) (mvT hZ (own_w73 hw)) (by decide) (backOfSH (W := 0) (rmTM l Z a0 hw [] a1 b1 k1 z1 xs cs h0 n0 O0 f2 hcs E1 Fc1 Fv1 V1 hzl hz4) hZ (own_w75 hw) (own_w8 hw) (by decide) (by decide) (own_EW hw) (CHr.refl hH0).1) qa4 qc4 (g := (mkF m 23 #[.val (.ref a1), .val (.int ii), .val (.ref a1)] [(.ref a1)])) rfl (by rw [hml]; rfl) (Steps.refl _) (argsL := []) (rest := []) (lenOf pd_20 rfl) rfl (by show 2 * 0 + _ ≤ _; exact Nat.le_of_eq rfl) (hb hby d5_23) (fun _ _ => ⟨rfl, eh1, (by decide : 0 + 2 ≤ _), (by decide : 0 + 9 ≤ _)⟩)
    dsimp only [Pt.U, Pt.locs, Pt.cells, Pt.slots] at Xr4 S24 sz4 l4 y4 z4 st4 hQ4 Hc4
    subst l4 y4 z4
    obtain ⟨X4, hS4, hZ4, hown4⟩ := rebS hS0 (by rw [eh1]; exact (Nat.le_refl _)) Xr4 S24 sz4 hZ hown
    have CHc4 := (CHr.refl hH0).trans Hc4
    obtain ⟨nr4, nv4, nk4, nm4, rfl, Nq4, Kp4, hnm4, Er4, Fv4, Fc4, Vr4⟩ := hQ4
    have O_4 := O0.keep Kp4 all0
    have K_4 := (Keep.refl h0 []).trans Kp4 all0
    have N4 := Fr.app N1 Nq4
    refine GoesH.via (B := T4.setTop (mkF m 26 #[.val (.ref a1), .val (.int ii), .val (.ref a1)] [(.ref nr4)])) st4 ?_
    exact GoesH.retA X4 hS4 (Nat.le_refl _) hZ4 (own_EW hw) (by rw [show s.heap = h0 from hh]; exact CHc4) hx rfl Bd.returns rfl rfl hlk (hb hby d5_26) (by decide) (by decide) (⟨nr4, nv4, nk4, nm4, rfl, N4, K_4, (by rw [hys]; exact hnm4), Er4, Fv4, Fc4, (by rw [hys]; exact Vr4)⟩)
  · refine GoesH.step (fun _ k => pw_ifYes X1.here hx (pc' := 15) (hb hby d5_8) ((if0 _ _).trans (flt hc8_2).2.1) (by decide) (by decide) _ (pw_aloadN X1.here hx (hb hby d5_15) rfl rfl _ (pw_iconst X1.here hx (v := (0 : Int32)) (hb hby d5_16) rfl _ (pw_iloadN X1.here hx (hb hby d5_17) rfl _ k)))) ?_
    have hi0 := own_nlt' hc8_2
    rw [own_i0] at hi0
    obtain ⟨cq5, kq5, qa5, qb5, qc5⟩ := isOf hZ eh1 E1
    obtain ⟨_, vw5, ⟨T5, L5, k5, n5⟩, -, Xr5, S25, sz5, ⟨Lc5, hQ5, l5, y5, z5, Hc5⟩, st5⟩ := X1.virtualBackS hx (y := (⟨"java/lang/String", "substring", "(II)Ljava/lang/String;"⟩ : MethodName)) (z := (⟨"java/lang/String", "substring", "(II)Ljava/lang/String;"⟩ : MethodName)) hown (mvT hZ (own_w96 hw)) (mvT hZ (own_w97 hw)) (notFace_of_selects (args := #[]) (mvT hZ (own_w99 hw))) (mvT hZ (own_w99 hw)) (mvT hZ (own_w98 hw)) (by decide) (backOfSH (W := 0) (rmS2 l Z a0 hw [] a1 b1 k1 z1 xs (0 : Int32) ii cs fm h0 n0 O0 FS E1 Fc1 Fv1 V1 (by decide) (by rw [own_i0]; exact hi0) (by omega) (by omega) hzl) hZ (own_w100 hw) (own_w8 hw) (by decide) (by decide) (own_EW hw) (CHr.refl hH0).1) qa5 qc5 (g := (mkF m 18 #[.val (.ref a1), .val (.int ii), .unset] [(.int ii), (.int 0), (.ref a1)])) rfl (by rw [hml]; rfl) (Steps.refl _) (argsL := [(.int 0), (.int ii)]) (rest := []) (lenOf pd_21 rfl) rfl (by show 2 * 0 + _ ≤ _; exact Nat.le_of_eq rfl) (hb hby d5_18) (fun _ _ => ⟨rfl, eh1, (by decide : 0 + 2 ≤ _), (by decide : 0 + 9 ≤ _)⟩)
    dsimp only [Pt.U, Pt.locs, Pt.cells, Pt.slots] at Xr5 S25 sz5 l5 y5 z5 st5 hQ5 Hc5
    subst l5 y5 z5
    obtain ⟨X5, hS5, hZ5, hown5⟩ := rebS hS0 (by rw [eh1]; exact (Nat.le_refl _)) Xr5 S25 sz5 hZ hown
    have CHc5 := (CHr.refl hH0).trans Hc5
    obtain ⟨nr5, nv5, nk5, nm5, hnm5, rfl, Nq5, Kp5, Er5, Fv5, Fc5, Vr5⟩ := hQ5
    have O_5 := O0.keep Kp5 all0
    have K_5 := (Keep.refl h0 []).trans Kp5 all0
    have N5 := Fr.app N1 Nq5
    refine GoesH.via (B := T5.setTop (mkF m 21 #[.val (.ref a1), .val (.int ii), .unset] [(.ref nr5)])) st5 ?_
    have hni : nm5 = ii := hnm5.trans (own_z0 ii)
    have hn4 : nm5.toInt ≤ 4 := by rw [hni]; omega
    have hys : own_ys xs = own_sub xs (0 : Int32) nm5 := by rw [own_ys, ← hii, if_neg hc8_2, hni]
    refine GoesH.step (fun _ k => pw_astoreN X5.here hx (l' := #[.val (.ref a1), .val (.int ii), .val (.ref nr5)]) (hb hby d5_21) rfl rfl _ (pw_aloadN X5.here hx (hb hby d5_22) rfl rfl _ k)) ?_
    have f7 := S_COMPACT_STRINGS.ext O_5.2
    obtain ⟨cq6, kq6, qa6, qb6, qc6⟩ := isOf hZ5 rfl Er5
    obtain ⟨_, vw6, ⟨T6, L6, k6, n6⟩, -, Xr6, S26, sz6, ⟨Lc6, hQ6, l6, y6, z6, Hc6⟩, st6⟩ := X5.virtualBackS hx (y := (⟨"java/lang/String", "trim", "()Ljava/lang/String;"⟩ : MethodName)) (z := (⟨"java/lang/String", "trim", "()Ljava/lang/String;"⟩ : MethodName)) hown5 (mvT hZ5 (own_w71 hw)) (mvT hZ5 (own_w72 hw)) (notFace_of_selects (args := #[]) (mvT hZ5 (own_w74 hw))) (mvT hZ5 (own_w74 hw)) (mvT hZ5 (own_w73 hw)) (by decide) (backOfSH (W := 0) (rmTM l Z a0 hw [] nr5 nv5 nk5 nm5 (own_sub xs (0 : Int32) nm5) cs T5.heap n0 O_5 f7 hcs Er5 Fc5 Fv5 Vr5 (own_subl _ _ _) hn4) hZ5 (own_w75 hw) (own_w8 hw) (by decide) (by decide) (own_EW hw) CHc5.1) qa6 qc6 (g := (mkF m 23 #[.val (.ref a1), .val (.int ii), .val (.ref nr5)] [(.ref nr5)])) rfl (by rw [hml]; rfl) (Steps.refl _) (argsL := []) (rest := []) (lenOf pd_20 rfl) rfl (by show 2 * 0 + _ ≤ _; exact Nat.le_of_eq rfl) (hb hby d5_23) (fun _ _ => ⟨rfl, rfl, (by decide : 2 + 2 ≤ _), (by decide : 9 + 9 ≤ _)⟩)
    dsimp only [Pt.U, Pt.locs, Pt.cells, Pt.slots] at Xr6 S26 sz6 l6 y6 z6 st6 hQ6 Hc6
    subst l6 y6 z6
    obtain ⟨X6, hS6, hZ6, hown6⟩ := rebS hS5 (by exact (Nat.le_refl _)) Xr6 S26 sz6 hZ5 hown5
    have CHc6 := CHc5.trans Hc6
    obtain ⟨nr6, nv6, nk6, nm6, rfl, Nq6, Kp6, hnm6, Er6, Fv6, Fc6, Vr6⟩ := hQ6
    have O_6 := O_5.keep Kp6 all0
    have K_6 := K_5.trans Kp6 all0
    have N6 := Fr.app N5 Nq6
    refine GoesH.via (B := T6.setTop (mkF m 26 #[.val (.ref a1), .val (.int ii), .val (.ref nr5)] [(.ref nr6)])) st6 ?_
    exact GoesH.retA X6 hS6 (Nat.le_refl _) hZ6 (own_EW hw) (by rw [show s.heap = h0 from hh]; exact CHc6) hx rfl Bd.returns rfl rfl hlk (hb hby d5_26) (by decide) (by decide) (⟨nr6, nv6, nk6, nm6, rfl, N6, K_6, (by rw [hys]; exact hnm6), Er6, Fv6, Fc6, (by rw [hys]; exact Vr6)⟩)
theorem d17_0 : decode method_3_code 0 = .ok (.iload 4, 2) := by decide +kernel
theorem d17_2 : decode method_3_code 2 = .ok (.iload_n 3, 1) := by decide +kernel
theorem d17_3 : decode method_3_code 3 = .ok (.if_icmp .ge 24, 3) := by decide +kernel
theorem d17_6 : decode method_3_code 6 = .ok (.aload_n 0, 1) := by decide +kernel
theorem d17_7 : decode method_3_code 7 = .ok (.iload 4, 2) := by decide +kernel
theorem d17_9 : decode method_3_code 9 = .ok (.invokevirtual 7, 3) := by decide +kernel
theorem own_w133 {Z : State} {a0 : Array Value} (hw : ∀ d ∈ tables_1, d.before a0 Z = true) : (Jvm.Cond.methodLink "com/example/partwright/partwright/reader/HeaderValueTypeOfPinLaw" (7 : Nat) ({ cls := "java/lang/String", name := "charAt", desc := "(I)C" } : Jvm.MethodName)).before a0 Z = true := hw _ (List.mem_of_getElem? (i := 133) rfl)
theorem own_w137 {Z : State} {a0 : Array Value} (hw : ∀ d ∈ tables_1, d.before a0 Z = true) : (Jvm.Cond.code ({ cls := "java/lang/String", name := "charAt", desc := "(I)C" } : Jvm.MethodName) jdk_42_method_56_code (2 : Nat) (Option.some Jvm.ClassFile.FieldType.char)).before a0 Z = true := hw _ (List.mem_of_getElem? (i := 137) rfl)
theorem pd_22 : parseMethodDescriptor "(I)C" = some ⟨[.int], some .char⟩ := by decide +kernel
theorem own_w136 {Z : State} {a0 : Array Value} (hw : ∀ d ∈ tables_1, d.before a0 Z = true) : (Jvm.Cond.selects "java/lang/String" ({ cls := "java/lang/String", name := "charAt", desc := "(I)C" } : Jvm.MethodName) ({ cls := "java/lang/String", name := "charAt", desc := "(I)C" } : Jvm.MethodName)).before a0 Z = true := hw _ (List.mem_of_getElem? (i := 136) rfl)
theorem own_w134 {Z : State} {a0 : Array Value} (hw : ∀ d ∈ tables_1, d.before a0 Z = true) : (Jvm.Cond.declares ({ cls := "java/lang/String", name := "charAt", desc := "(I)C" } : Jvm.MethodName)).before a0 Z = true := hw _ (List.mem_of_getElem? (i := 134) rfl)
theorem own_w135 {Z : State} {a0 : Array Value} (hw : ∀ d ∈ tables_1, d.before a0 Z = true) : (Jvm.Cond.instanceMethod ({ cls := "java/lang/String", name := "charAt", desc := "(I)C" } : Jvm.MethodName)).before a0 Z = true := hw _ (List.mem_of_getElem? (i := 135) rfl)
theorem d17_12 : decode method_3_code 12 = .ok (.aload_n 1, 1) := by decide +kernel
theorem d17_13 : decode method_3_code 13 = .ok (.iload_n 2, 1) := by decide +kernel
theorem d17_14 : decode method_3_code 14 = .ok (.iload 4, 2) := by decide +kernel
theorem d17_16 : decode method_3_code 16 = .ok (.iadd, 1) := by decide +kernel
theorem d17_17 : decode method_3_code 17 = .ok (.caload, 1) := by decide +kernel
theorem d17_18 : decode method_3_code 18 = .ok (.if_icmp .ne 7, 3) := by decide +kernel
theorem d17_21 : decode method_3_code 21 = .ok (.iconst 1, 1) := by decide +kernel
theorem d17_22 : decode method_3_code 22 = .ok (.goto 4, 3) := by decide +kernel
theorem d17_26 : decode method_3_code 26 = .ok (.ireturn, 1) := by decide +kernel
theorem d17_27 : decode method_3_code 27 = .ok (.iconst 1, 1) := by decide +kernel
theorem d17_28 : decode method_3_code 28 = .ok (.ireturn, 1) := by decide +kernel
theorem ef_rmAt (m : MethodId) (x0 : Addr) (x1 : Addr) (x2 : Int32) (x3 : Int32) (x4 : Int32) : entryFrame m #[(.ref x0), (.ref x1), (.int x2), (.int x3), (.int x4)] 5 = mkF m 0 #[.val (.ref x0), .val (.ref x1), .val (.int x2), .val (.int x3), .val (.int x4)] [] := by first | (simp [entryFrame, mkF, argsToLocals, Value.category]; done) | rfl
def QAt (Z : State) (a1 : Addr) (b1 : Addr) (k1 : ClassId) (z1 : Int32) (xs : List Int32) (ca : Addr) (kc : ClassId) (ch0 : Int32) (ch1 : Int32) (ch2 : Int32) (ch3 : Int32) (ii : Int32) (mm : Int32) (ss : Int32) (cs : Int32) (fm : Value) (h0 : Heap) (n0 : Nat) (v : Option Value) (h : Heap) (L : List Loc) : Prop := v = some (.int 1) ∧ Fr n0 L ∧ h = h0
set_option maxRecDepth 65536 in
set_option maxHeartbeats 40000000 in
theorem rmAt (l : Launch) (Z : State) (a0 : Array Value) (hw : ∀ d ∈ tables_1, d.before a0 Z = true) (ws : List Jvm.Cond) (a1 : Addr) (b1 : Addr) (k1 : ClassId) (z1 : Int32) (xs : List Int32) (ca : Addr) (kc : ClassId) (ch0 : Int32) (ch1 : Int32) (ch2 : Int32) (ch3 : Int32) (ii : Int32) (mm : Int32) (ss : Int32) (cs : Int32) (fm : Value) (h0 : Heap) (n0 : Nat) (O0 : Old Z n0 h0) (FS : OwnSt Z cs fm) (E1 : Exa Z h0 a1 "java/lang/String") (Fc1 : Fld Z h0 a1 "java/lang/String" "coder" "B" (.int (0 : Int32))) (Fv1 : Fld Z h0 a1 "java/lang/String" "value" "[B" (.ref b1)) (V1 : Arv Z h0 b1 k1 .byte z1 (xs.map Value.int) (.int (0 : Int32))) (Vc : Arv Z h0 ca kc .char (4 : Int32) [.int ch0, .int ch1, .int ch2, .int ch3] (.int (0 : Int32))) (hat : ii < mm → ¬ ii < 0 ∧ ii < z1 ∧ ¬ ss + ii < 0 ∧ ss + ii < (4 : Int32) ∧ own_c (xs.getD ii.toNatClampNeg 0) = ([ch0, ch1, ch2, ch3] : List Int32).getD (ss + ii).toNatClampNeg 0) :
    MetFree l (⟨"com/example/partwright/partwright/reader/HeaderValueTypeOfPinLaw", "same", "(Ljava/lang/String;[CIII)Z"⟩ : MethodName) (head1 (Jvm.Cond.code (⟨"com/example/partwright/partwright/reader/HeaderValueTypeOfPinLaw", "same", "(Ljava/lang/String;[CIII)Z"⟩ : MethodName) method_3_code 5 (some .boolean) :: ws) ({ frames := 4, cells := 0, slots := 0, locals := 53 } : Room)) (fun a U => a = #[(.ref a1), (.ref ca), (.int ss), (.int mm), (.int ii)] ∧ Z.Warmed39 U.vm ∧ U.heap = h0) (fun _ _ _ _ _ => True) (fun _ U o U' => ∃ v L, o = .returned v ∧ QAt Z a1 b1 k1 z1 xs ca kc ch0 ch1 ch2 ch3 ii mm ss cs fm h0 n0 v U'.heap L ∧ FrameEnd U o U' L ({ frames := 4, cells := 0, slots := 0, locals := 53 } : Room).cells ({ frames := 4, cells := 0, slots := 0, locals := 53 } : Room).slots) := by
  refine MetFree.of_bodySF (plainFor_of_name pn_HeaderValueTypeOfPinLaw) hisR ?_
  intro p e s m args below meth c s₁ Bd hml0 hP hK
  obtain ⟨rfl, hZ, hh⟩ := hP
  have hx := Bd.exec
  have hby := Bd.bytes
  have hlk : meth.locks = false := BodyLoose.notSynchronized Bd
  have hml : c.maxLocals = 5 := hml0
  have hown : s.vm.findClass "com/example/partwright/partwright/reader/HeaderValueTypeOfPinLaw" = some m.cls := findClass_of_methodNamed Bd.named
  have hnm := (name_of_methodNamed Bd.named Bd.method).1
  have X0 : Stand p l e ({ frames := 4, cells := 0, slots := 0, locals := 53 } : Room) s m #[(.ref a1), (.ref ca), (.int ss), (.int mm), (.int ii)] below meth c s₁ [] 0 0 := Stand.of_body Bd
  have e0 : s₁.heap = h0 := by rw [← hh, Bd.state]; rfl
  have N0 := Fr.nil n0
  show Goes p e below s (QAt Z a1 b1 k1 z1 xs ca kc ch0 ch1 ch2 ch3 ii mm ss cs fm h0 n0) ({ frames := 4, cells := 0, slots := 0, locals := 53 } : Room).cells ({ frames := 4, cells := 0, slots := 0, locals := 53 } : Room).slots (s₁.setTop (entryFrame m #[(.ref a1), (.ref ca), (.int ss), (.int mm), (.int ii)] 5))
  refine Goes.enter (g' := (mkF m 0 #[.val (.ref a1), .val (.ref ca), .val (.int ss), .val (.int mm), .val (.int ii)] [])) (ef_rmAt m a1 ca ss mm ii) ?_
  have FS0 := FS
  obtain ⟨S_COMPACT_STRINGS, hcs, S_fm, hfm⟩ := FS0
  refine Goes.step (fun _ k => pw_iload X0.here hx (hb hby d17_0) rfl _ (pw_iloadN X0.here hx (hb hby d17_2) rfl _ k)) ?_
  by_cases hc3_0 : ii < mm
  · refine Goes.step (fun _ k => pw_icmpNo X0.here hx (hb hby d17_3) (tlt hc3_0).2.1 _ k) ?_
    obtain ⟨hi0, hi1, hj0, hj1, hcq⟩ := hat hc3_0
    refine Goes.step (fun _ k => pw_aloadN X0.here hx (hb hby d17_6) rfl rfl _ (pw_iload X0.here hx (hb hby d17_7) rfl _ k)) ?_
    have f3 := S_COMPACT_STRINGS.ext O0.2
    obtain ⟨cq2, kq2, qa2, qb2, qc2⟩ := isOf hZ e0 E1
    obtain ⟨_, _, ⟨T2, L2, k2, n2⟩, -, X2, ⟨Lc2, hQ2, l2, y2, z2⟩, st2⟩ := X0.virtualBack hx (y := (⟨"java/lang/String", "charAt", "(I)C"⟩ : MethodName)) (z := (⟨"java/lang/String", "charAt", "(I)C"⟩ : MethodName)) hown (mvT hZ (own_w133 hw)) (mvT hZ (own_w134 hw)) (notFace_of_selects (args := #[]) (mvT hZ (own_w136 hw))) (mvT hZ (own_w136 hw)) (mvT hZ (own_w135 hw)) (by decide) (backOf (W := 0) (rm30 l Z a0 hw [] a1 b1 k1 z1 xs ii cs fm h0 n0 O0 FS E1 Fc1 Fv1 V1 hi0 hi1) hZ (own_w137 hw) (own_w8 hw) (by decide) (by decide)) qa2 qc2 (g := (mkF m 9 #[.val (.ref a1), .val (.ref ca), .val (.int ss), .val (.int mm), .val (.int ii)] [(.int ii), (.ref a1)])) rfl (by rw [hml]; rfl) (Steps.refl _) (argsL := [(.int ii)]) (rest := []) (lenOf pd_22 rfl) rfl (by show 2 * 0 + _ ≤ _; exact Nat.le_of_eq rfl) (hb hby d17_9) (fun _ _ => ⟨rfl, e0, (by decide : 0 + 0 ≤ _), (by decide : 0 + 0 ≤ _)⟩)
    dsimp only [Pt.U, Pt.locs, Pt.cells, Pt.slots] at X2 l2 y2 z2 st2 hQ2
    subst l2 y2 z2
    obtain ⟨rfl, Nq2, eh2⟩ := hQ2
    have N2 := Fr.app N0 Nq2
    refine Goes.via (B := T2.setTop (mkF m 12 #[.val (.ref a1), .val (.ref ca), .val (.int ss), .val (.int mm), .val (.int ii)] [(.int (own_c (xs.getD ii.toNatClampNeg 0)))])) st2 ?_
    refine Goes.step (fun _ k => pw_aloadN X2.here hx (hb hby d17_12) rfl rfl _ (pw_iloadN X2.here hx (hb hby d17_13) rfl _ (pw_iload X2.here hx (hb hby d17_14) rfl _ (pw_iadd X2.here hx (hb hby d17_16) _ k)))) ?_
    obtain ⟨c4, Ar4, -, Sz4, Nn4, Hs4, -⟩ := id Vc
    have hin4 : ¬ ((ss + ii) < 0 ∨ c4.slots.size ≤ ((ss + ii)).toNatClampNeg) := inb_of Sz4 ⟨hj0, hj1⟩
    refine Goes.step (B := T2.setTop (mkF m 18 #[.val (.ref a1), .val (.ref ca), .val (.int ss), .val (.int mm), .val (.int ii)] [(.int (([ch0, ch1, ch2, ch3] : List Int32).getD (ss + ii).toNatClampNeg 0)), (.int (own_c (xs.getD ii.toNatClampNeg 0)))])) (X2.caload hx (j := (ss + ii)) (v := (.int (([ch0, ch1, ch2, ch3] : List Int32).getD (ss + ii).toNatClampNeg 0))) (by rw [eh2]; exact Ar4.1) (State.isArrayOf_alike hZ.alike Ar4.2.1) Ar4.2.2 hin4 (Has.at Hs4 hin4 (own_getD [ch0, ch1, ch2, ch3] _)) (g := (mkF m 17 #[.val (.ref a1), .val (.ref ca), .val (.int ss), .val (.int mm), .val (.int ii)] [(.int (ss + ii)), (.ref ca), (.int (own_c (xs.getD ii.toNatClampNeg 0)))])) rfl rfl (hb hby d17_17)) ?_
    refine Goes.step (fun _ k => pw_icmpNo X2.here hx (hb hby d17_18) (teq hcq).2 _ (pw_iconst X2.here hx (v := (1 : Int32)) (hb hby d17_21) rfl _ (pw_goto X2.here hx (pc' := 26) (hb hby d17_22) (by decide) (by decide) _ k))) ?_
    exact Goes.retN X2 hx eh2 (t := .boolean) Bd.returns (by simp) hlk (hb hby d17_26) (by decide) (by decide) (⟨rfl, N2, rfl⟩)
  · refine Goes.step (fun _ k => pw_icmpYes X0.here hx (pc' := 27) (hb hby d17_3) (flt hc3_0).2.1 (by decide) (by decide) _ (pw_iconst X0.here hx (v := (1 : Int32)) (hb hby d17_27) rfl _ k)) ?_
    exact Goes.retN X0 hx e0 (t := .boolean) Bd.returns (by simp) hlk (hb hby d17_28) (by decide) (by decide) (⟨rfl, N0, rfl⟩)
theorem own_eb0 : (own_e0).toInt ≤ 0 := by
  unfold own_e0
  decide
theorem own_eb1 (x0 : Int32) : (own_e1 x0).toInt ≤ 1 := by
  unfold own_e1
  repeat' split
  all_goals decide
theorem own_eb2 (x0 x1 : Int32) : (own_e2 x0 x1).toInt ≤ 2 := by
  unfold own_e2
  repeat' split
  all_goals decide
theorem own_eb3 (x0 x1 x2 : Int32) : (own_e3 x0 x1 x2).toInt ≤ 3 := by
  unfold own_e3
  repeat' split
  all_goals decide
theorem own_eb4 (x0 x1 x2 x3 : Int32) : (own_e4 x0 x1 x2 x3).toInt ≤ 4 := by
  unfold own_e4
  repeat' split
  all_goals decide
theorem own_w0 {Z : State} {a0 : Array Value} (hw : ∀ d ∈ tables_1, d.before a0 Z = true) : (Jvm.Cond.constant "com/example/partwright/partwright/reader/HeaderValueTypeOfPinLaw" (13 : Nat) (2147483647 : Int32)).before a0 Z = true := hw _ (List.mem_of_getElem? (i := 0) rfl)
theorem own_w1 {Z : State} {a0 : Array Value} (hw : ∀ d ∈ tables_1, d.before a0 Z = true) : (Jvm.Cond.arrayClass Jvm.ClassFile.FieldType.char).before a0 Z = true := hw _ (List.mem_of_getElem? (i := 1) rfl)
theorem own_w2 {Z : State} {a0 : Array Value} (hw : ∀ d ∈ tables_1, d.before a0 Z = true) : (Jvm.Cond.methodLink "com/example/partwright/partwright/reader/HeaderValueTypeOfPinLaw" (14 : Nat) ({ cls := "com/example/partwright/partwright/reader/HeaderValueTypeOfPinLaw", name := "draw", desc := "(I)C" } : Jvm.MethodName)).before a0 Z = true := hw _ (List.mem_of_getElem? (i := 2) rfl)
theorem own_w5 {Z : State} {a0 : Array Value} (hw : ∀ d ∈ tables_1, d.before a0 Z = true) : (Jvm.Cond.code ({ cls := "com/example/partwright/partwright/reader/HeaderValueTypeOfPinLaw", name := "draw", desc := "(I)C" } : Jvm.MethodName) method_2_code (3 : Nat) (Option.some Jvm.ClassFile.FieldType.char)).before a0 Z = true := hw _ (List.mem_of_getElem? (i := 5) rfl)
theorem own_w4 {Z : State} {a0 : Array Value} (hw : ∀ d ∈ tables_1, d.before a0 Z = true) : (Jvm.Cond.initialized "com/example/partwright/partwright/reader/HeaderValueTypeOfPinLaw").before a0 Z = true := hw _ (List.mem_of_getElem? (i := 4) rfl)
theorem own_w3 {Z : State} {a0 : Array Value} (hw : ∀ d ∈ tables_1, d.before a0 Z = true) : (Jvm.Cond.static ({ cls := "com/example/partwright/partwright/reader/HeaderValueTypeOfPinLaw", name := "draw", desc := "(I)C" } : Jvm.MethodName)).before a0 Z = true := hw _ (List.mem_of_getElem? (i := 3) rfl)
theorem own_w6 {Z : State} {a0 : Array Value} (hw : ∀ d ∈ tables_1, d.before a0 Z = true) : (Jvm.Cond.classLink "com/example/partwright/partwright/reader/HeaderValueTypeOfPinLaw" (8 : Nat) "java/lang/String").before a0 Z = true := hw _ (List.mem_of_getElem? (i := 6) rfl)
theorem own_w9 {Z : State} {a0 : Array Value} (hw : ∀ d ∈ tables_1, d.before a0 Z = true) : (Jvm.Cond.methodLink "com/example/partwright/partwright/reader/HeaderValueTypeOfPinLaw" (19 : Nat) ({ cls := "java/lang/String", name := "<init>", desc := "([C)V" } : Jvm.MethodName)).before a0 Z = true := hw _ (List.mem_of_getElem? (i := 9) rfl)
theorem own_w11 {Z : State} {a0 : Array Value} (hw : ∀ d ∈ tables_1, d.before a0 Z = true) : (Jvm.Cond.code ({ cls := "java/lang/String", name := "<init>", desc := "([C)V" } : Jvm.MethodName) jdk_42_method_3_code (2 : Nat) (Option.none : Option Jvm.ClassFile.FieldType)).before a0 Z = true := hw _ (List.mem_of_getElem? (i := 11) rfl)
theorem pd_23 : parseMethodDescriptor "([C)V" = some ⟨[(.array .char)], none⟩ := by decide +kernel
theorem own_w10 {Z : State} {a0 : Array Value} (hw : ∀ d ∈ tables_1, d.before a0 Z = true) : (Jvm.Cond.instanceMethod ({ cls := "java/lang/String", name := "<init>", desc := "([C)V" } : Jvm.MethodName)).before a0 Z = true := hw _ (List.mem_of_getElem? (i := 10) rfl)
theorem own_w27 {Z : State} {a0 : Array Value} (hw : ∀ d ∈ tables_1, d.before a0 Z = true) : (Jvm.Cond.methodLink "com/example/partwright/partwright/reader/HeaderValueTypeOfPinLaw" (22 : Nat) ({ cls := "com/example/partwright/partwright/reader/HeaderValue", name := "typeOf", desc := "(Ljava/lang/String;)Ljava/lang/String;" } : Jvm.MethodName)).before a0 Z = true := hw _ (List.mem_of_getElem? (i := 27) rfl)
theorem own_w30 {Z : State} {a0 : Array Value} (hw : ∀ d ∈ tables_1, d.before a0 Z = true) : (Jvm.Cond.code ({ cls := "com/example/partwright/partwright/reader/HeaderValue", name := "typeOf", desc := "(Ljava/lang/String;)Ljava/lang/String;" } : Jvm.MethodName) prog_8_method_2_code (3 : Nat) (Option.some (Jvm.ClassFile.FieldType.object "java/lang/String"))).before a0 Z = true := hw _ (List.mem_of_getElem? (i := 30) rfl)
theorem own_w29 {Z : State} {a0 : Array Value} (hw : ∀ d ∈ tables_1, d.before a0 Z = true) : (Jvm.Cond.initialized "com/example/partwright/partwright/reader/HeaderValue").before a0 Z = true := hw _ (List.mem_of_getElem? (i := 29) rfl)
theorem pd_24 : parseMethodDescriptor "(Ljava/lang/String;)Ljava/lang/String;" = some ⟨[(.object "java/lang/String")], some (.object "java/lang/String")⟩ := by decide +kernel
theorem own_w28 {Z : State} {a0 : Array Value} (hw : ∀ d ∈ tables_1, d.before a0 Z = true) : (Jvm.Cond.static ({ cls := "com/example/partwright/partwright/reader/HeaderValue", name := "typeOf", desc := "(Ljava/lang/String;)Ljava/lang/String;" } : Jvm.MethodName)).before a0 Z = true := hw _ (List.mem_of_getElem? (i := 28) rfl)
theorem own_w79 {Z : State} {a0 : Array Value} (hw : ∀ d ∈ tables_1, d.before a0 Z = true) : (Jvm.Cond.methodLink "com/example/partwright/partwright/reader/HeaderValueTypeOfPinLaw" (28 : Nat) ({ cls := "java/lang/String", name := "length", desc := "()I" } : Jvm.MethodName)).before a0 Z = true := hw _ (List.mem_of_getElem? (i := 79) rfl)
theorem own_w80 {Z : State} {a0 : Array Value} (hw : ∀ d ∈ tables_1, d.before a0 Z = true) : (Jvm.Cond.methodLink "com/example/partwright/partwright/reader/HeaderValueTypeOfPinLaw" (32 : Nat) ({ cls := "com/example/partwright/partwright/reader/HeaderValueTypeOfPinLaw", name := "same", desc := "(Ljava/lang/String;[CIII)Z" } : Jvm.MethodName)).before a0 Z = true := hw _ (List.mem_of_getElem? (i := 80) rfl)
theorem own_w82 {Z : State} {a0 : Array Value} (hw : ∀ d ∈ tables_1, d.before a0 Z = true) : (Jvm.Cond.code ({ cls := "com/example/partwright/partwright/reader/HeaderValueTypeOfPinLaw", name := "same", desc := "(Ljava/lang/String;[CIII)Z" } : Jvm.MethodName) method_3_code (5 : Nat) (Option.some Jvm.ClassFile.FieldType.boolean)).before a0 Z = true := hw _ (List.mem_of_getElem? (i := 82) rfl)
theorem pd_25 : parseMethodDescriptor "(Ljava/lang/String;[CIII)Z" = some ⟨[(.object "java/lang/String"), (.array .char), .int, .int, .int], some .boolean⟩ := by decide +kernel
theorem own_w81 {Z : State} {a0 : Array Value} (hw : ∀ d ∈ tables_1, d.before a0 Z = true) : (Jvm.Cond.static ({ cls := "com/example/partwright/partwright/reader/HeaderValueTypeOfPinLaw", name := "same", desc := "(Ljava/lang/String;[CIII)Z" } : Jvm.MethodName)).before a0 Z = true := hw _ (List.mem_of_getElem? (i := 81) rfl)
theorem ef_rm0 (m : MethodId) (x0 : Int32) (x1 : Int32) (x2 : Int32) (x3 : Int32) (x4 : Int32) : entryFrame m #[(.int x0), (.int x1), (.int x2), (.int x3), (.int x4)] maxLocals = mkF m 0 #[.val (.int x0), .val (.int x1), .val (.int x2), .val (.int x3), .val (.int x4), .unset, .unset, .unset, .unset, .unset, .unset, .unset, .unset] [] := by first | (simp [entryFrame, mkF, argsToLocals, Value.category, maxLocals]; done) | rfl
def Q0 (Z : State) (i0 : Int32) (i1 : Int32) (i2 : Int32) (i3 : Int32) (i4 : Int32) (cs : Int32) (fm : Value) (h0 : Heap) (n0 : Nat) (v : Option Value) (h : Heap) (L : List Loc) : Prop := v = some (.int 1) ∧ Fr n0 L
set_option maxRecDepth 65536 in
set_option maxHeartbeats 40000000 in
theorem rm0 (l : Launch) (Z : State) (a0 : Array Value) (hw : ∀ d ∈ tables_1, d.before a0 Z = true) (ws : List Jvm.Cond) (i0 : Int32) (i1 : Int32) (i2 : Int32) (i3 : Int32) (i4 : Int32) (cs : Int32) (fm : Value) (h0 : Heap) (n0 : Nat) (O0 : Old Z n0 h0) (FS : OwnSt Z cs fm) :
    MetFree l x (head1 (Jvm.Cond.code x code maxLocals ret :: ws) room_1) (fun a U => a = #[(.int i0), (.int i1), (.int i2), (.int i3), (.int i4)] ∧ Z.Warmed39 U.vm ∧ U.heap = h0 ∧ CHv Z own_EL U.vm h0) (fun _ _ _ _ _ => True) (fun _ U o U' => ∃ v L, o = .returned v ∧ Q0 Z i0 i1 i2 i3 i4 cs fm h0 n0 v U'.heap L ∧ ReturnedEndW U o U' L room_1.cells room_1.slots) := by
  refine MetFree.of_bodySF (plainFor_of_name pn_HeaderValueTypeOfPinLaw) hisR ?_
  intro p e s m args below meth c s₁ Bd hml0 hP hK
  obtain ⟨rfl, hZ, hh, hH0⟩ := hP
  have hx := Bd.exec
  have hby := Bd.bytes
  have hlk : meth.locks = false := BodyLoose.notSynchronized Bd
  have hml : c.maxLocals = 13 := hml0
  have hown : s.vm.findClass "com/example/partwright/partwright/reader/HeaderValueTypeOfPinLaw" = some m.cls := findClass_of_methodNamed Bd.named
  have hnm := (name_of_methodNamed Bd.named Bd.method).1
  have X0 : Stand p l e room_1 (s.setVm s.vm) m #[(.int i0), (.int i1), (.int i2), (.int i3), (.int i4)] below meth c s₁ [] 0 0 := Stand.of_body Bd
  have e0 : s₁.heap = h0 := by rw [← hh, Bd.state]; rfl
  have N0 := Fr.nil n0
  have hS0 : s.Since s.vm h0.size := (State.WarmedH.refl s).since _
  show GoesW p e below s (Q0 Z i0 i1 i2 i3 i4 cs fm h0 n0) room_1.cells room_1.slots (s₁.setTop (entryFrame m #[(.int i0), (.int i1), (.int i2), (.int i3), (.int i4)] maxLocals))
  refine GoesW.enter (g' := (mkF m 0 #[.val (.int i0), .val (.int i1), .val (.int i2), .val (.int i3), .val (.int i4), .unset, .unset, .unset, .unset, .unset, .unset, .unset, .unset] [])) (ef_rm0 m i0 i1 i2 i3 i4) ?_
  have FS0 := FS
  obtain ⟨S_COMPACT_STRINGS, hcs, S_fm, hfm⟩ := FS0
  refine GoesW.step (fun _ k => pw_iloadN X0.here hx (hb hby at_0) rfl _ k) ?_
  refine GoesW.step (B := s₁.setTop (mkF m 3 #[.val (.int i0), .val (.int i1), .val (.int i2), .val (.int i3), .val (.int i4), .unset, .unset, .unset, .unset, .unset, .unset, .unset, .unset] [(.int 2147483647), (.int i0)])) (X0.ldcInt hx hown (mvT hZ (own_w0 hw)) (g := (mkF m 1 #[.val (.int i0), .val (.int i1), .val (.int i2), .val (.int i3), .val (.int i4), .unset, .unset, .unset, .unset, .unset, .unset, .unset, .unset] [(.int i0)])) rfl (hb hby at_1)) ?_
  refine GoesW.step (fun _ k => pw_iand X0.here hx (hb hby at_3) _ (pw_iconst X0.here hx (v := (5 : Int32)) (hb hby at_4) rfl _ k)) ?_
  refine GoesW.step (B := s₁.setTop (mkF m 6 #[.val (.int i0), .val (.int i1), .val (.int i2), .val (.int i3), .val (.int i4), .unset, .unset, .unset, .unset, .unset, .unset, .unset, .unset] [(.int ((i0 &&& (2147483647 : Int32)) % (5 : Int32)))])) (fun _ k => iremM X0 hx rfl (hb hby at_5) rfl (by decide) k) ?_
  obtain ⟨nv, hnv⟩ : ∃ z, z = ((i0 &&& (2147483647 : Int32)) % (5 : Int32)) := ⟨_, rfl⟩
  rw [← hnv]
  refine GoesW.step (fun _ k => pw_istore X0.here hx (l' := #[.val (.int i0), .val (.int i1), .val (.int i2), .val (.int i3), .val (.int i4), .val (.int nv), .unset, .unset, .unset, .unset, .unset, .unset, .unset]) (hb hby at_6) rfl _ (pw_iconst X0.here hx (v := (4 : Int32)) (hb hby at_8) rfl _ k)) ?_
  obtain ⟨T1, h1, k1, X1, e1, E1, A1, st1⟩ := newP (aty := .char) X0 hx hZ (own_w1 hw) e0 (g := (mkF m 9 #[.val (.int i0), .val (.int i1), .val (.int i2), .val (.int i3), .val (.int i4), .val (.int nv), .unset, .unset, .unset, .unset, .unset, .unset, .unset] [(.int 4)])) rfl (hb hby at_9) rfl (by decide) (cap := 4) (by decide) (by decide) (by decide) (by decide)
  obtain ⟨b1, g1⟩ : ∃ z, z = h0.size := ⟨_, rfl⟩
  rw [← g1] at A1 st1
  have g_b1 : n0 ≤ b1 := Nat.le_trans (own_z O0) (Nat.le_of_eq g1.symm)
  have Sf_b1 := Safe.ext E1 (CHr.refl hH0).1 (Safe.new (Nat.le_of_eq g1.symm))
  have CH2 := (CHr.refl hH0).trans (CHr.ext E1 (CHr.refl hH0).1)
  have O_1 := O0.ext E1
  have V_b1 : Arv Z h1 b1 k1 .char (4 : Int32) [(.int 0), (.int 0), (.int 0), (.int 0)] (.int 0) := (Arv.new A1 (by decide)).pad (pad_rep [] (.int 0) 4)
  refine GoesW.step (B := T1.setTop (mkF m 11 #[.val (.int i0), .val (.int i1), .val (.int i2), .val (.int i3), .val (.int i4), .val (.int nv), .unset, .unset, .unset, .unset, .unset, .unset, .unset] [(.ref b1)])) st1 ?_
  refine GoesW.step (fun _ k => pw_dup X1.here hx (hb hby at_11) rfl _ (pw_iconst X1.here hx (v := (0 : Int32)) (hb hby at_12) rfl _ (pw_iloadN X1.here hx (hb hby at_13) rfl _ k))) ?_
  obtain ⟨_, _, ⟨T3, L3, k3, n3⟩, -, X3, ⟨Lc3, hQ3, l3, y3, z3⟩, st3⟩ := Jvm.LawKit.callS X1 hx (y := (⟨"com/example/partwright/partwright/reader/HeaderValueTypeOfPinLaw", "draw", "(I)C"⟩ : MethodName)) hown (mvT hZ (own_w2 hw)) (mvT hZ (own_w3 hw)) (mvT hZ (own_w4 hw)) (mvT hZ (own_w5 hw)) (by decide) (backOf (W := 3) (rm1 l Z a0 hw [] i1 h1 n0 O_1 ) hZ (own_w5 hw) (own_w4 hw) (by decide) (by decide)) (g := (mkF m 14 #[.val (.int i0), .val (.int i1), .val (.int i2), .val (.int i3), .val (.int i4), .val (.int nv), .unset, .unset, .unset, .unset, .unset, .unset, .unset] [(.int i1), (.int 0), (.ref b1), (.ref b1)])) rfl (by rw [hml]; rfl) (argsL := [(.int i1)]) (rest := [(.int 0), (.ref b1), (.ref b1)]) (lenOf pd_22 rfl) rfl (by show 2 * 0 + _ ≤ _; exact Nat.le_of_eq rfl) (hb hby at_14) (fun _ _ => ⟨rfl, e1, (by decide : 1 + 0 ≤ _), (by decide : 4 + 0 ≤ _)⟩)
  dsimp only [Pt.U, Pt.locs, Pt.cells, Pt.slots] at X3 l3 y3 z3 st3 hQ3
  subst l3 y3 z3
  obtain ⟨r_3, rfl, hok_3, Nq3, eh3⟩ := hQ3
  have N3 := Fr.app N0 Nq3
  refine GoesW.step (B := T3.setTop (mkF m 17 #[.val (.int i0), .val (.int i1), .val (.int i2), .val (.int i3), .val (.int i4), .val (.int nv), .unset, .unset, .unset, .unset, .unset, .unset, .unset] [(.int r_3), (.int 0), (.ref b1), (.ref b1)])) st3 ?_
  obtain ⟨c4, Ar4, q4, Sz4, Nn4, Hs4, Gs4⟩ := id V_b1
  have hin4 : ¬ ((0 : Int32) < 0 ∨ c4.slots.size ≤ ((0 : Int32)).toNatClampNeg) := inb_of Sz4 ⟨by decide, by decide⟩
  obtain ⟨T4, h4, X4, e4, W4, st4⟩ := stC X3 hx hZ eh3 Ar4 (j := (0 : Int32)) hin4 (g := (mkF m 17 #[.val (.int i0), .val (.int i1), .val (.int i2), .val (.int i3), .val (.int i4), .val (.int nv), .unset, .unset, .unset, .unset, .unset, .unset, .unset] [(.int r_3), (.int 0), (.ref b1), (.ref b1)])) rfl rfl (hb hby at_17)
  have Sf5 := Safe.wr W4 Sf_b1 CH2.1 Sf_b1
  have CH6 := CH2.trans (CHr.wr W4 Sf_b1 CH2.1)
  have V4 : Arv Z h4 b1 k1 .char (4 : Int32) [(.int (nar .char r_3)), (.int 0), (.int 0), (.int 0)] (.int 0) := Arv.set Ar4 q4 Sz4 Nn4 Hs4 Gs4 (fits_nar_char _) W4 0 rfl (Nat.le_of_ble_eq_true rfl)
  have Vn4 : Arv Z h4 b1 k1 .char (4 : Int32) [(.int r_3), (.int 0), (.int 0), (.int 0)] (.int 0) := by have q := V4; rw [own_nr hok_3] at q; exact q
  have N4 := Fr.snoc X4 N3 g_b1
  have O_4 := O_1.wr W4 g_b1
  refine GoesW.step (B := T4.setTop (mkF m 18 #[.val (.int i0), .val (.int i1), .val (.int i2), .val (.int i3), .val (.int i4), .val (.int nv), .unset, .unset, .unset, .unset, .unset, .unset, .unset] [(.ref b1)])) st4 ?_
  refine GoesW.step (fun _ k => pw_dup X4.here hx (hb hby at_18) rfl _ (pw_iconst X4.here hx (v := (1 : Int32)) (hb hby at_19) rfl _ (pw_iloadN X4.here hx (hb hby at_20) rfl _ k))) ?_
  obtain ⟨_, _, ⟨T7, L7, k7, n7⟩, -, X7, ⟨Lc7, hQ7, l7, y7, z7⟩, st7⟩ := Jvm.LawKit.callS X4 hx (y := (⟨"com/example/partwright/partwright/reader/HeaderValueTypeOfPinLaw", "draw", "(I)C"⟩ : MethodName)) hown (mvT hZ (own_w2 hw)) (mvT hZ (own_w3 hw)) (mvT hZ (own_w4 hw)) (mvT hZ (own_w5 hw)) (by decide) (backOf (W := 3) (rm1 l Z a0 hw [] i2 h4 n0 O_4 ) hZ (own_w5 hw) (own_w4 hw) (by decide) (by decide)) (g := (mkF m 21 #[.val (.int i0), .val (.int i1), .val (.int i2), .val (.int i3), .val (.int i4), .val (.int nv), .unset, .unset, .unset, .unset, .unset, .unset, .unset] [(.int i2), (.int 1), (.ref b1), (.ref b1)])) rfl (by rw [hml]; rfl) (argsL := [(.int i2)]) (rest := [(.int 1), (.ref b1), (.ref b1)]) (lenOf pd_22 rfl) rfl (by show 2 * 0 + _ ≤ _; exact Nat.le_of_eq rfl) (hb hby at_21) (fun _ _ => ⟨rfl, e4, (by decide : 1 + 0 ≤ _), (by decide : 4 + 0 ≤ _)⟩)
  dsimp only [Pt.U, Pt.locs, Pt.cells, Pt.slots] at X7 l7 y7 z7 st7 hQ7
  subst l7 y7 z7
  obtain ⟨r_7, rfl, hok_7, Nq7, eh7⟩ := hQ7
  have N7 := Fr.app N4 Nq7
  refine GoesW.step (B := T7.setTop (mkF m 24 #[.val (.int i0), .val (.int i1), .val (.int i2), .val (.int i3), .val (.int i4), .val (.int nv), .unset, .unset, .unset, .unset, .unset, .unset, .unset] [(.int r_7), (.int 1), (.ref b1), (.ref b1)])) st7 ?_
  obtain ⟨c8, Ar8, q8, Sz8, Nn8, Hs8, Gs8⟩ := id Vn4
  have hin8 : ¬ ((1 : Int32) < 0 ∨ c8.slots.size ≤ ((1 : Int32)).toNatClampNeg) := inb_of Sz8 ⟨by decide, by decide⟩
  obtain ⟨T8, h8, X8, e8, W8, st8⟩ := stC X7 hx hZ eh7 Ar8 (j := (1 : Int32)) hin8 (g := (mkF m 24 #[.val (.int i0), .val (.int i1), .val (.int i2), .val (.int i3), .val (.int i4), .val (.int nv), .unset, .unset, .unset, .unset, .unset, .unset, .unset] [(.int r_7), (.int 1), (.ref b1), (.ref b1)])) rfl rfl (hb hby at_24)
  have Sf9 := Safe.wr W8 Sf5 CH6.1 Sf5
  have CH10 := CH6.trans (CHr.wr W8 Sf5 CH6.1)
  have V8 : Arv Z h8 b1 k1 .char (4 : Int32) [(.int r_3), (.int (nar .char r_7)), (.int 0), (.int 0)] (.int 0) := Arv.set Ar8 q8 Sz8 Nn8 Hs8 Gs8 (fits_nar_char _) W8 1 rfl (Nat.le_of_ble_eq_true rfl)
  have Vn8 : Arv Z h8 b1 k1 .char (4 : Int32) [(.int r_3), (.int r_7), (.int 0), (.int 0)] (.int 0) := by have q := V8; rw [own_nr hok_7] at q; exact q
  have N8 := Fr.snoc X8 N7 g_b1
  have O_8 := O_4.wr W8 g_b1
  refine GoesW.step (B := T8.setTop (mkF m 25 #[.val (.int i0), .val (.int i1), .val (.int i2), .val (.int i3), .val (.int i4), .val (.int nv), .unset, .unset, .unset, .unset, .unset, .unset, .unset] [(.ref b1)])) st8 ?_
  refine GoesW.step (fun _ k => pw_dup X8.here hx (hb hby at_25) rfl _ (pw_iconst X8.here hx (v := (2 : Int32)) (hb hby at_26) rfl _ (pw_iloadN X8.here hx (hb hby at_27) rfl _ k))) ?_
  obtain ⟨_, _, ⟨T11, L11, k11, n11⟩, -, X11, ⟨Lc11, hQ11, l11, y11, z11⟩, st11⟩ := Jvm.LawKit.callS X8 hx (y := (⟨"com/example/partwright/partwright/reader/HeaderValueTypeOfPinLaw", "draw", "(I)C"⟩ : MethodName)) hown (mvT hZ (own_w2 hw)) (mvT hZ (own_w3 hw)) (mvT hZ (own_w4 hw)) (mvT hZ (own_w5 hw)) (by decide) (backOf (W := 3) (rm1 l Z a0 hw [] i3 h8 n0 O_8 ) hZ (own_w5 hw) (own_w4 hw) (by decide) (by decide)) (g := (mkF m 28 #[.val (.int i0), .val (.int i1), .val (.int i2), .val (.int i3), .val (.int i4), .val (.int nv), .unset, .unset, .unset, .unset, .unset, .unset, .unset] [(.int i3), (.int 2), (.ref b1), (.ref b1)])) rfl (by rw [hml]; rfl) (argsL := [(.int i3)]) (rest := [(.int 2), (.ref b1), (.ref b1)]) (lenOf pd_22 rfl) rfl (by show 2 * 0 + _ ≤ _; exact Nat.le_of_eq rfl) (hb hby at_28) (fun _ _ => ⟨rfl, e8, (by decide : 1 + 0 ≤ _), (by decide : 4 + 0 ≤ _)⟩)
  dsimp only [Pt.U, Pt.locs, Pt.cells, Pt.slots] at X11 l11 y11 z11 st11 hQ11
  subst l11 y11 z11
  obtain ⟨r_11, rfl, hok_11, Nq11, eh11⟩ := hQ11
  have N11 := Fr.app N8 Nq11
  refine GoesW.step (B := T11.setTop (mkF m 31 #[.val (.int i0), .val (.int i1), .val (.int i2), .val (.int i3), .val (.int i4), .val (.int nv), .unset, .unset, .unset, .unset, .unset, .unset, .unset] [(.int r_11), (.int 2), (.ref b1), (.ref b1)])) st11 ?_
  obtain ⟨c12, Ar12, q12, Sz12, Nn12, Hs12, Gs12⟩ := id Vn8
  have hin12 : ¬ ((2 : Int32) < 0 ∨ c12.slots.size ≤ ((2 : Int32)).toNatClampNeg) := inb_of Sz12 ⟨by decide, by decide⟩
  obtain ⟨T12, h12, X12, e12, W12, st12⟩ := stC X11 hx hZ eh11 Ar12 (j := (2 : Int32)) hin12 (g := (mkF m 31 #[.val (.int i0), .val (.int i1), .val (.int i2), .val (.int i3), .val (.int i4), .val (.int nv), .unset, .unset, .unset, .unset, .unset, .unset, .unset] [(.int r_11), (.int 2), (.ref b1), (.ref b1)])) rfl rfl (hb hby at_31)
  have Sf13 := Safe.wr W12 Sf9 CH10.1 Sf9
  have CH14 := CH10.trans (CHr.wr W12 Sf9 CH10.1)
  have V12 : Arv Z h12 b1 k1 .char (4 : Int32) [(.int r_3), (.int r_7), (.int (nar .char r_11)), (.int 0)] (.int 0) := Arv.set Ar12 q12 Sz12 Nn12 Hs12 Gs12 (fits_nar_char _) W12 2 rfl (Nat.le_of_ble_eq_true rfl)
  have Vn12 : Arv Z h12 b1 k1 .char (4 : Int32) [(.int r_3), (.int r_7), (.int r_11), (.int 0)] (.int 0) := by have q := V12; rw [own_nr hok_11] at q; exact q
  have N12 := Fr.snoc X12 N11 g_b1
  have O_12 := O_8.wr W12 g_b1
  refine GoesW.step (B := T12.setTop (mkF m 32 #[.val (.int i0), .val (.int i1), .val (.int i2), .val (.int i3), .val (.int i4), .val (.int nv), .unset, .unset, .unset, .unset, .unset, .unset, .unset] [(.ref b1)])) st12 ?_
  refine GoesW.step (fun _ k => pw_dup X12.here hx (hb hby at_32) rfl _ (pw_iconst X12.here hx (v := (3 : Int32)) (hb hby at_33) rfl _ (pw_iload X12.here hx (hb hby at_34) rfl _ k))) ?_
  obtain ⟨_, _, ⟨T15, L15, k15, n15⟩, -, X15, ⟨Lc15, hQ15, l15, y15, z15⟩, st15⟩ := Jvm.LawKit.callS X12 hx (y := (⟨"com/example/partwright/partwright/reader/HeaderValueTypeOfPinLaw", "draw", "(I)C"⟩ : MethodName)) hown (mvT hZ (own_w2 hw)) (mvT hZ (own_w3 hw)) (mvT hZ (own_w4 hw)) (mvT hZ (own_w5 hw)) (by decide) (backOf (W := 3) (rm1 l Z a0 hw [] i4 h12 n0 O_12 ) hZ (own_w5 hw) (own_w4 hw) (by decide) (by decide)) (g := (mkF m 36 #[.val (.int i0), .val (.int i1), .val (.int i2), .val (.int i3), .val (.int i4), .val (.int nv), .unset, .unset, .unset, .unset, .unset, .unset, .unset] [(.int i4), (.int 3), (.ref b1), (.ref b1)])) rfl (by rw [hml]; rfl) (argsL := [(.int i4)]) (rest := [(.int 3), (.ref b1), (.ref b1)]) (lenOf pd_22 rfl) rfl (by show 2 * 0 + _ ≤ _; exact Nat.le_of_eq rfl) (hb hby at_36) (fun _ _ => ⟨rfl, e12, (by decide : 1 + 0 ≤ _), (by decide : 4 + 0 ≤ _)⟩)
  dsimp only [Pt.U, Pt.locs, Pt.cells, Pt.slots] at X15 l15 y15 z15 st15 hQ15
  subst l15 y15 z15
  obtain ⟨r_15, rfl, hok_15, Nq15, eh15⟩ := hQ15
  have N15 := Fr.app N12 Nq15
  refine GoesW.step (B := T15.setTop (mkF m 39 #[.val (.int i0), .val (.int i1), .val (.int i2), .val (.int i3), .val (.int i4), .val (.int nv), .unset, .unset, .unset, .unset, .unset, .unset, .unset] [(.int r_15), (.int 3), (.ref b1), (.ref b1)])) st15 ?_
  obtain ⟨c16, Ar16, q16, Sz16, Nn16, Hs16, Gs16⟩ := id Vn12
  have hin16 : ¬ ((3 : Int32) < 0 ∨ c16.slots.size ≤ ((3 : Int32)).toNatClampNeg) := inb_of Sz16 ⟨by decide, by decide⟩
  obtain ⟨T16, h16, X16, e16, W16, st16⟩ := stC X15 hx hZ eh15 Ar16 (j := (3 : Int32)) hin16 (g := (mkF m 39 #[.val (.int i0), .val (.int i1), .val (.int i2), .val (.int i3), .val (.int i4), .val (.int nv), .unset, .unset, .unset, .unset, .unset, .unset, .unset] [(.int r_15), (.int 3), (.ref b1), (.ref b1)])) rfl rfl (hb hby at_39)
  have Sf17 := Safe.wr W16 Sf13 CH14.1 Sf13
  have CH18 := CH14.trans (CHr.wr W16 Sf13 CH14.1)
  have V16 : Arv Z h16 b1 k1 .char (4 : Int32) [(.int r_3), (.int r_7), (.int r_11), (.int (nar .char r_15))] (.int 0) := Arv.set Ar16 q16 Sz16 Nn16 Hs16 Gs16 (fits_nar_char _) W16 3 rfl (Nat.le_of_ble_eq_true rfl)
  have Vn16 : Arv Z h16 b1 k1 .char (4 : Int32) [(.int r_3), (.int r_7), (.int r_11), (.int r_15)] (.int 0) := by have q := V16; rw [own_nr hok_15] at q; exact q
  have N16 := Fr.snoc X16 N15 g_b1
  have O_16 := O_12.wr W16 g_b1
  refine GoesW.step (B := T16.setTop (mkF m 40 #[.val (.int i0), .val (.int i1), .val (.int i2), .val (.int i3), .val (.int i4), .val (.int nv), .unset, .unset, .unset, .unset, .unset, .unset, .unset] [(.ref b1)])) st16 ?_
  refine GoesW.step (fun _ k => pw_astore X16.here hx (l' := #[.val (.int i0), .val (.int i1), .val (.int i2), .val (.int i3), .val (.int i4), .val (.int nv), .val (.ref b1), .unset, .unset, .unset, .unset, .unset, .unset]) (hb hby at_40) rfl rfl _ k) ?_
  rcases own_n5 hnv with rfl | rfl | rfl | rfl | rfl
  · refine GoesW.step (fun _ k => pw_iload X16.here hx (hb hby at_42) rfl _ k) ?_
    obtain ⟨T19, h19, k19, X19, e19, E19, A19, st19⟩ := newP (aty := .char) X16 hx hZ (own_w1 hw) e16 (g := (mkF m 44 #[.val (.int i0), .val (.int i1), .val (.int i2), .val (.int i3), .val (.int i4), .val (.int 0), .val (.ref b1), .unset, .unset, .unset, .unset, .unset, .unset] [(.int 0)])) rfl (hb hby at_44) rfl (by decide) (cap := 0) (by decide) (by decide) (by decide) (by decide)
    obtain ⟨b19, g19⟩ : ∃ z, z = h16.size := ⟨_, rfl⟩
    rw [← g19] at A19 st19
    have ne_b1_b19 : b1 ≠ b19 := Nat.ne_of_lt (Nat.lt_of_lt_of_le Vn16.lt (Nat.le_of_eq g19.symm))
    have g_b19 : n0 ≤ b19 := Nat.le_trans (own_z O_16) (Nat.le_of_eq g19.symm)
    have Sf_b19 := Safe.ext E19 CH18.1 (Safe.new (Nat.le_of_eq g19.symm))
    have Sf20 := Safe.ext E19 CH18.1 Sf17
    have CH21 := CH18.trans (CHr.ext E19 CH18.1)
    have O_19 := O_16.ext E19
    have V_b19 : Arv Z h19 b19 k19 .char (0 : Int32) [] (.int 0) := (Arv.new A19 (by decide)).pad (pad_rep [] (.int 0) 0)
    refine GoesW.step (B := T19.setTop (mkF m 46 #[.val (.int i0), .val (.int i1), .val (.int i2), .val (.int i3), .val (.int i4), .val (.int 0), .val (.ref b1), .unset, .unset, .unset, .unset, .unset, .unset] [(.ref b19)])) st19 ?_
    refine GoesW.step (fun _ k => pw_astore X19.here hx (l' := #[.val (.int i0), .val (.int i1), .val (.int i2), .val (.int i3), .val (.int i4), .val (.int 0), .val (.ref b1), .val (.ref b19), .unset, .unset, .unset, .unset, .unset]) (hb hby at_46) rfl rfl _ (pw_iload X19.here hx (hb hby at_48) rfl _ (pw_ifYes X19.here hx (pc' := 61) (hb hby at_50) ((if0 _ _).trans (flt (by decide)).2.2.2) (by decide) (by decide) _ (pw_iload X19.here hx (hb hby at_61) rfl _ (pw_iconst X19.here hx (v := (1 : Int32)) (hb hby at_63) rfl _ (pw_icmpYes X19.here hx (pc' := 75) (hb hby at_64) (flt (by decide)).2.2.2 (by decide) (by decide) _ k)))))) ?_
    refine GoesW.step (fun _ k => pw_iload X19.here hx (hb hby at_75) rfl _ (pw_iconst X19.here hx (v := (2 : Int32)) (hb hby at_77) rfl _ (pw_icmpYes X19.here hx (pc' := 89) (hb hby at_78) (flt (by decide)).2.2.2 (by decide) (by decide) _ (pw_iload X19.here hx (hb hby at_89) rfl _ (pw_iconst X19.here hx (v := (3 : Int32)) (hb hby at_91) rfl _ (pw_icmpYes X19.here hx (pc' := 103) (hb hby at_92) (flt (by decide)).2.2.2 (by decide) (by decide) _ k)))))) ?_
    obtain ⟨T22, h22, X22, e22, E22, A22, D22, -, st22⟩ := newO X19 hx hZ hown (own_w6 hw) (own_w7 hw) (own_w8 hw) e19 (g := (mkF m 103 #[.val (.int i0), .val (.int i1), .val (.int i2), .val (.int i3), .val (.int i4), .val (.int 0), .val (.ref b1), .val (.ref b19), .unset, .unset, .unset, .unset, .unset] [])) rfl (hb hby at_103) (by decide) (by decide)
    obtain ⟨b22, g22⟩ : ∃ z, z = h19.size := ⟨_, rfl⟩
    rw [← g22] at A22 D22 st22
    have f23 := (Vn16.ext E19)
    have ne_b1_b22 : b1 ≠ b22 := Nat.ne_of_lt (Nat.lt_of_lt_of_le f23.lt (Nat.le_of_eq g22.symm))
    have ne_b19_b22 : b19 ≠ b22 := Nat.ne_of_lt (Nat.lt_of_lt_of_le V_b19.lt (Nat.le_of_eq g22.symm))
    have g_b22 : n0 ≤ b22 := Nat.le_trans (own_z O_19) (Nat.le_of_eq g22.symm)
    have Sf_b22 := Safe.ext E22 CH21.1 (Safe.new (Nat.le_of_eq g22.symm))
    have Sf24 := Safe.ext E22 CH21.1 Sf20
    have Sf25 := Safe.ext E22 CH21.1 Sf_b19
    have CH26 := CH21.trans (CHr.ext E22 CH21.1)
    have O_22 := O_19.ext E22
    have F22_value : Fld Z h22 b22 "java/lang/String" "value" "[B" .null := D22 (Or.inr (own_w21 hw)) (ty := (.array .byte)) (by decide)
    have F22_coder : Fld Z h22 b22 "java/lang/String" "coder" "B" (.int 0) := D22 (Or.inr (own_w22 hw)) (ty := .byte) (by decide)
    refine GoesW.step (B := T22.setTop (mkF m 106 #[.val (.int i0), .val (.int i1), .val (.int i2), .val (.int i3), .val (.int i4), .val (.int 0), .val (.ref b1), .val (.ref b19), .unset, .unset, .unset, .unset, .unset] [(.ref b22)])) st22 ?_
    refine GoesW.step (fun _ k => pw_dup X22.here hx (hb hby at_106) rfl _ (pw_aload X22.here hx (hb hby at_107) rfl rfl _ k)) ?_
    have f28 := (V_b19.ext E22)
    have f29 := S_COMPACT_STRINGS.ext O_22.2
    obtain ⟨_, vw27, ⟨T27, L27, k27, n27⟩, -, Xr27, S227, sz27, ⟨Lc27, hQ27, l27, y27, z27, Hc27⟩, st27⟩ := X22.specialBackS hx (y := (⟨"java/lang/String", "<init>", "([C)V"⟩ : MethodName)) rfl hown (mvT hZ (own_w9 hw)) (mvT hZ (own_w10 hw)) (mvT hZ (own_w11 hw)) (by decide) (backOfSHs (W := 1) (rmSI_0 l Z a0 hw [] b22 b19 k19 cs h22 n0 O_22 A22 g_b22 F22_value F22_coder f28 f29 hcs) hZ (own_w11 hw) (own_w8 hw) (by decide) (by decide) (own_EW hw) CH26.1 A22.lt Sf_b22) (g := (mkF m 109 #[.val (.int i0), .val (.int i1), .val (.int i2), .val (.int i3), .val (.int i4), .val (.int 0), .val (.ref b1), .val (.ref b19), .unset, .unset, .unset, .unset, .unset] [(.ref b19), (.ref b22), (.ref b22)])) rfl (by rw [hml]; rfl) (Steps.refl _) (a := b22) (argsL := [(.ref b19)]) (rest := [(.ref b22)]) (lenOf pd_23 rfl) rfl (by show 2 * 0 + _ ≤ _; exact Nat.le_of_eq rfl) (hb hby at_109) (fun _ _ => ⟨rfl, e22, (by decide : 3 + 4 ≤ _), (by decide : 8 + 8 ≤ _)⟩)
    dsimp only [Pt.U, Pt.locs, Pt.cells, Pt.slots] at Xr27 S227 sz27 l27 y27 z27 st27 hQ27 Hc27
    subst l27 y27 z27
    obtain ⟨X27, hS27, hZ27, hown27⟩ := rebS hS0 (by rw [e22]; exact (Nat.le_trans (Nat.le_trans (Nat.le_trans (Nat.le_trans (Nat.le_trans (Nat.le_trans (Nat.le_trans (Nat.le_refl _) E1.1) (Nat.le_of_eq W4.size.symm)) (Nat.le_of_eq W8.size.symm)) (Nat.le_of_eq W12.size.symm)) (Nat.le_of_eq W16.size.symm)) E19.1) E22.1)) Xr27 S227 sz27 hZ hown
    have CHc27 := CH26.trans Hc27
    obtain ⟨rfl, Nq27, Kp27, Ex27, sv27, sk27, Fsv27, Fsc27, Vsv27⟩ := hQ27
    have f31 := (f23.ext E22)
    have Sf30 := CHr.safe Hc27 f31.lt Sf24
    have Sf32 := CHr.safe Hc27 f28.lt Sf25
    have Sf33 := CHr.safe Hc27 A22.lt Sf_b22
    have O_27 := O_22.keep Kp27 (allS g_b22 all0)
    have N27 := Fr.app N16 Nq27
    refine GoesW.via (B := T27.setTop (mkF m 112 #[.val (.int i0), .val (.int i1), .val (.int i2), .val (.int i3), .val (.int i4), .val (.int 0), .val (.ref b1), .val (.ref b19), .unset, .unset, .unset, .unset, .unset] [(.ref b22)])) st27 ?_
    have f35 := S_COMPACT_STRINGS.ext O_27.2
    obtain ⟨_, vw34, ⟨T34, L34, k34, n34⟩, -, Xr34, S234, sz34, ⟨Lc34, hQ34, l34, y34, z34, Hc34⟩, st34⟩ := callSS X27 hx (y := (⟨"com/example/partwright/partwright/reader/HeaderValue", "typeOf", "(Ljava/lang/String;)Ljava/lang/String;"⟩ : MethodName)) hown27 (mvT hZ27 (own_w27 hw)) (mvT hZ27 (own_w28 hw)) (mvT hZ27 (own_w29 hw)) (mvT hZ27 (own_w30 hw)) (by decide) (backOfSH (W := 0) (rmTY l Z a0 hw [] b22 sv27 sk27 (0 : Int32) [] cs fm T27.heap n0 O_27 FS Ex27 Fsc27 Fsv27 Vsv27 rfl (by decide)) hZ27 (own_w30 hw) (own_w29 hw) (by decide) (by decide) (own_EW hw) CHc27.1) (g := (mkF m 112 #[.val (.int i0), .val (.int i1), .val (.int i2), .val (.int i3), .val (.int i4), .val (.int 0), .val (.ref b1), .val (.ref b19), .unset, .unset, .unset, .unset, .unset] [(.ref b22)])) rfl (by rw [hml]; rfl) (argsL := [(.ref b22)]) (rest := []) (lenOf pd_24 rfl) rfl (by show 2 * 0 + _ ≤ _; exact Nat.le_of_eq rfl) (hb hby at_112) (fun _ _ => ⟨rfl, rfl, (by decide : 7 + 4 ≤ _), (by decide : 16 + 18 ≤ _)⟩)
    dsimp only [Pt.U, Pt.locs, Pt.cells, Pt.slots] at Xr34 S234 sz34 l34 y34 z34 st34 hQ34 Hc34
    subst l34 y34 z34
    obtain ⟨X34, hS34, hZ34, hown34⟩ := rebS hS27 (by exact (Nat.le_refl _)) Xr34 S234 sz34 hZ27 hown27
    have CHc34 := CHc27.trans Hc34
    obtain ⟨nr34, nv34, nk34, nm34, rfl, Nq34, Kp34, hnm34, Er34, Fv34, Fc34, Vr34⟩ := hQ34
    have f37 := (f31.keep Kp27 (ninS ne_b1_b22 nin0))
    have Sf36 := CHr.safe Hc34 f37.lt Sf30
    have f39 := (f28.keep Kp27 (ninS ne_b19_b22 nin0))
    have Sf38 := CHr.safe Hc34 f39.lt Sf32
    have Sf40 := CHr.safe Hc34 Ex27.lt Sf33
    have O_34 := O_27.keep Kp34 all0
    have N34 := Fr.app N27 Nq34
    refine GoesW.via (B := T34.setTop (mkF m 115 #[.val (.int i0), .val (.int i1), .val (.int i2), .val (.int i3), .val (.int i4), .val (.int 0), .val (.ref b1), .val (.ref b19), .unset, .unset, .unset, .unset, .unset] [(.ref nr34)])) st34 ?_
    refine GoesW.step (fun _ k => pw_astore X34.here hx (l' := #[.val (.int i0), .val (.int i1), .val (.int i2), .val (.int i3), .val (.int i4), .val (.int 0), .val (.ref b1), .val (.ref b19), .val (.ref nr34), .unset, .unset, .unset, .unset]) (hb hby at_115) rfl rfl _ (pw_iload X34.here hx (hb hby at_117) rfl _ (pw_istore X34.here hx (l' := #[.val (.int i0), .val (.int i1), .val (.int i2), .val (.int i3), .val (.int i4), .val (.int 0), .val (.ref b1), .val (.ref b19), .val (.ref nr34), .val (.int 0), .unset, .unset, .unset]) (hb hby at_119) rfl _ (pw_iload X34.here hx (hb hby at_121) rfl _ (pw_iconst X34.here hx (v := (3 : Int32)) (hb hby at_123) rfl _ (pw_icmpYes X34.here hx (pc' := 139) (hb hby at_124) (flt (by decide)).2.2.2 (by decide) (by decide) _ k)))))) ?_
    refine GoesW.step (fun _ k => pw_iload X34.here hx (hb hby at_139) rfl _ (pw_iconst X34.here hx (v := (2 : Int32)) (hb hby at_141) rfl _ (pw_icmpYes X34.here hx (pc' := 157) (hb hby at_142) (flt (by decide)).2.2.2 (by decide) (by decide) _ (pw_iload X34.here hx (hb hby at_157) rfl _ (pw_iconst X34.here hx (v := (1 : Int32)) (hb hby at_159) rfl _ (pw_icmpYes X34.here hx (pc' := 175) (hb hby at_160) (flt (by decide)).2.2.2 (by decide) (by decide) _ k)))))) ?_
    refine GoesW.step (fun _ k => pw_iload X34.here hx (hb hby at_175) rfl _ (pw_ifYes X34.here hx (pc' := 192) (hb hby at_177) ((if0 _ _).trans (flt (by decide)).2.2.2) (by decide) (by decide) _ k)) ?_
    have hE : (0 : Int32) = own_e0 := rfl
    obtain ⟨g1, g2, g3, g4, g5, g6, g7⟩ := own_fin0 (c0 := r_3) (c1 := r_7) (c2 := r_11) (c3 := r_15)
    rw [← hE] at g1 g2 g3 g4 g5 g6 g7
    rw [← hnm34] at g1
    have heb : (0 : Int32).toInt ≤ 0 := by rw [hE]; exact own_eb0
    refine GoesW.step (fun _ k => pw_iload X34.here hx (hb hby at_192) rfl _ (pw_istore X34.here hx (l' := #[.val (.int i0), .val (.int i1), .val (.int i2), .val (.int i3), .val (.int i4), .val (.int 0), .val (.ref b1), .val (.ref b19), .val (.ref nr34), .val (.int 0), .val (.int 0), .unset, .unset]) (hb hby at_194) rfl _ (pw_iconst X34.here hx (v := (3 : Int32)) (hb hby at_196) rfl _ (pw_iload X34.here hx (hb hby at_197) rfl _ (pw_icmpYes X34.here hx (pc' := 214) (hb hby at_199) (flt (by decide)).2.1 (by decide) (by decide) _ (pw_iconst X34.here hx (v := (2 : Int32)) (hb hby at_214) rfl _ k)))))) ?_
    refine GoesW.step (fun _ k => pw_iload X34.here hx (hb hby at_215) rfl _ (pw_icmpYes X34.here hx (pc' := 232) (hb hby at_217) (flt (by decide)).2.1 (by decide) (by decide) _ (pw_iconst X34.here hx (v := (1 : Int32)) (hb hby at_232) rfl _ (pw_iload X34.here hx (hb hby at_233) rfl _ (pw_icmpYes X34.here hx (pc' := 250) (hb hby at_235) (flt (by decide)).2.1 (by decide) (by decide) _ (pw_iconst X34.here hx (v := (0 : Int32)) (hb hby at_250) rfl _ k)))))) ?_
    refine GoesW.step (fun _ k => pw_iload X34.here hx (hb hby at_251) rfl _ (pw_icmpYes X34.here hx (pc' := 268) (hb hby at_253) (flt (by decide)).2.1 (by decide) (by decide) _ (pw_iconst X34.here hx (v := (-1 : Int32)) (hb hby at_268) rfl _ (pw_istore X34.here hx (l' := #[.val (.int i0), .val (.int i1), .val (.int i2), .val (.int i3), .val (.int i4), .val (.int 0), .val (.ref b1), .val (.ref b19), .val (.ref nr34), .val (.int 0), .val (.int 0), .val (.int (-1)), .unset]) (hb hby at_269) rfl _ (pw_iconst X34.here hx (v := (0 : Int32)) (hb hby at_271) rfl _ (pw_iload X34.here hx (hb hby at_272) rfl _ k)))))) ?_
    refine GoesW.step (fun _ k => pw_icmpYes X34.here hx (pc' := 289) (hb hby at_274) (flt (by decide)).2.1 (by decide) (by decide) _ (pw_iconst X34.here hx (v := (1 : Int32)) (hb hby at_289) rfl _ (pw_iload X34.here hx (hb hby at_290) rfl _ (pw_icmpYes X34.here hx (pc' := 307) (hb hby at_292) (flt (by decide)).2.1 (by decide) (by decide) _ (pw_iconst X34.here hx (v := (2 : Int32)) (hb hby at_307) rfl _ (pw_iload X34.here hx (hb hby at_308) rfl _ k)))))) ?_
    refine GoesW.step (fun _ k => pw_icmpYes X34.here hx (pc' := 325) (hb hby at_310) (flt (by decide)).2.1 (by decide) (by decide) _ (pw_iconst X34.here hx (v := (3 : Int32)) (hb hby at_325) rfl _ (pw_iload X34.here hx (hb hby at_326) rfl _ (pw_icmpYes X34.here hx (pc' := 343) (hb hby at_328) (flt (by decide)).2.1 (by decide) (by decide) _ (pw_iload X34.here hx (hb hby at_343) rfl _ (pw_iload X34.here hx (hb hby at_345) rfl _ k)))))) ?_
    refine GoesW.step (fun _ k => pw_icmpYes X34.here hx (pc' := 360) (hb hby at_347) (tlt (by decide)).1 (by decide) (by decide) _ (pw_iconst X34.here hx (v := (0 : Int32)) (hb hby at_360) rfl _ (pw_istore X34.here hx (l' := #[.val (.int i0), .val (.int i1), .val (.int i2), .val (.int i3), .val (.int i4), .val (.int 0), .val (.ref b1), .val (.ref b19), .val (.ref nr34), .val (.int 0), .val (.int 0), .val (.int (-1)), .val (.int 0)]) (hb hby at_361) rfl _ k))) ?_
    rw [if_pos (by decide)] at g1 g4 g5
    refine GoesW.step (fun _ k => pw_aload X34.here hx (hb hby at_363) rfl rfl _ k) ?_
    have f42 := S_COMPACT_STRINGS.ext O_34.2
    obtain ⟨cq41, kq41, qa41, qb41, qc41⟩ := isOf hZ34 rfl Er34
    obtain ⟨_, _, ⟨T41, L41, k41, n41⟩, -, X41, ⟨Lc41, hQ41, l41, y41, z41⟩, st41⟩ := X34.virtualBack hx (y := (⟨"java/lang/String", "length", "()I"⟩ : MethodName)) (z := (⟨"java/lang/String", "length", "()I"⟩ : MethodName)) hown34 (mvT hZ34 (own_w79 hw)) (mvT hZ34 (own_w48 hw)) (notFace_of_selects (args := #[]) (mvT hZ34 (own_w50 hw))) (mvT hZ34 (own_w50 hw)) (mvT hZ34 (own_w49 hw)) (by decide) (backOf (W := 0) (rm9 l Z a0 hw [] nr34 nv34 nk34 nm34 (own_sub (own_ys []) (own_lo (own_ys [])) nm34) cs T34.heap n0 O_34 f42 hcs Er34 Fc34 Fv34 Vr34) hZ34 (own_w51 hw) (own_w8 hw) (by decide) (by decide)) qa41 qc41 (g := (mkF m 365 #[.val (.int i0), .val (.int i1), .val (.int i2), .val (.int i3), .val (.int i4), .val (.int 0), .val (.ref b1), .val (.ref b19), .val (.ref nr34), .val (.int 0), .val (.int 0), .val (.int (-1)), .val (.int 0)] [(.ref nr34)])) rfl (by rw [hml]; rfl) (Steps.refl _) (argsL := []) (rest := []) (lenOf pd_13 rfl) rfl (by show 2 * 0 + _ ≤ _; exact Nat.le_of_eq rfl) (hb hby at_365) (fun _ _ => ⟨rfl, rfl, (by decide : 11 + 0 ≤ _), (by decide : 34 + 0 ≤ _)⟩)
    dsimp only [Pt.U, Pt.locs, Pt.cells, Pt.slots] at X41 l41 y41 z41 st41 hQ41
    subst l41 y41 z41
    obtain ⟨rfl, Nq41, eh41⟩ := hQ41
    have N41 := Fr.app N34 Nq41
    refine GoesW.via (B := T41.setTop (mkF m 368 #[.val (.int i0), .val (.int i1), .val (.int i2), .val (.int i3), .val (.int i4), .val (.int 0), .val (.ref b1), .val (.ref b19), .val (.ref nr34), .val (.int 0), .val (.int 0), .val (.int (-1)), .val (.int 0)] [(.int nm34)])) st41 ?_
    refine GoesW.step (fun _ k => pw_iload X41.here hx (hb hby at_368) rfl _ (pw_icmpYes X41.here hx (pc' := 375) (hb hby at_370) (teq g1).1 (by decide) (by decide) _ (pw_aload X41.here hx (hb hby at_375) rfl rfl _ (pw_aload X41.here hx (hb hby at_377) rfl rfl _ (pw_iload X41.here hx (hb hby at_379) rfl _ (pw_iload X41.here hx (hb hby at_381) rfl _ k)))))) ?_
    refine GoesW.step (fun _ k => pw_iconst X41.here hx (v := (0 : Int32)) (hb hby at_383) rfl _ k) ?_
    have f44 := (f37.keep Kp34 nin0)
    obtain ⟨_, _, ⟨T43, L43, k43, n43⟩, -, X43, ⟨Lc43, hQ43, l43, y43, z43⟩, st43⟩ := Jvm.LawKit.callS X41 hx (y := (⟨"com/example/partwright/partwright/reader/HeaderValueTypeOfPinLaw", "same", "(Ljava/lang/String;[CIII)Z"⟩ : MethodName)) hown34 (mvT hZ34 (own_w80 hw)) (mvT hZ34 (own_w81 hw)) (mvT hZ34 (own_w4 hw)) (mvT hZ34 (own_w82 hw)) (by decide) (backOf (W := 0) (rmAt l Z a0 hw [] nr34 nv34 nk34 nm34 (own_sub (own_ys []) (own_lo (own_ys [])) nm34) b1 k1 r_3 r_7 r_11 r_15 (0 : Int32) (0 : Int32) (0 : Int32) cs fm T34.heap n0 O_34 FS Er34 Fc34 Fv34 Vr34 f44 (own_hatq g1 g2 g3 g4 g5 g6 g7 (by decide))) hZ34 (own_w82 hw) (own_w4 hw) (by decide) (by decide)) (g := (mkF m 384 #[.val (.int i0), .val (.int i1), .val (.int i2), .val (.int i3), .val (.int i4), .val (.int 0), .val (.ref b1), .val (.ref b19), .val (.ref nr34), .val (.int 0), .val (.int 0), .val (.int (-1)), .val (.int 0)] [(.int 0), (.int 0), (.int 0), (.ref b1), (.ref nr34)])) rfl (by rw [hml]; rfl) (argsL := [(.ref nr34), (.ref b1), (.int 0), (.int 0), (.int 0)]) (rest := []) (lenOf pd_25 rfl) rfl (by show 2 * 0 + _ ≤ _; exact Nat.le_of_eq rfl) (hb hby at_384) (fun _ _ => ⟨rfl, eh41, (by decide : 11 + 0 ≤ _), (by decide : 34 + 0 ≤ _)⟩)
    dsimp only [Pt.U, Pt.locs, Pt.cells, Pt.slots] at X43 l43 y43 z43 st43 hQ43
    subst l43 y43 z43
    obtain ⟨rfl, Nq43, eh43⟩ := hQ43
    have N43 := Fr.app N41 Nq43
    refine GoesW.step (B := T43.setTop (mkF m 387 #[.val (.int i0), .val (.int i1), .val (.int i2), .val (.int i3), .val (.int i4), .val (.int 0), .val (.ref b1), .val (.ref b19), .val (.ref nr34), .val (.int 0), .val (.int 0), .val (.int (-1)), .val (.int 0)] [(.int 1)])) st43 ?_
    refine GoesW.step (fun _ k => pw_ifNo X43.here hx (hb hby at_387) ((if0 _ _).trans (feq (by decide)).1) _ (pw_aload X43.here hx (hb hby at_390) rfl rfl _ (pw_aload X43.here hx (hb hby at_392) rfl rfl _ (pw_iload X43.here hx (hb hby at_394) rfl _ (pw_iload X43.here hx (hb hby at_396) rfl _ (pw_iconst X43.here hx (v := (1 : Int32)) (hb hby at_398) rfl _ k)))))) ?_
    obtain ⟨_, _, ⟨T45, L45, k45, n45⟩, -, X45, ⟨Lc45, hQ45, l45, y45, z45⟩, st45⟩ := Jvm.LawKit.callS X43 hx (y := (⟨"com/example/partwright/partwright/reader/HeaderValueTypeOfPinLaw", "same", "(Ljava/lang/String;[CIII)Z"⟩ : MethodName)) hown34 (mvT hZ34 (own_w80 hw)) (mvT hZ34 (own_w81 hw)) (mvT hZ34 (own_w4 hw)) (mvT hZ34 (own_w82 hw)) (by decide) (backOf (W := 0) (rmAt l Z a0 hw [] nr34 nv34 nk34 nm34 (own_sub (own_ys []) (own_lo (own_ys [])) nm34) b1 k1 r_3 r_7 r_11 r_15 (1 : Int32) (0 : Int32) (0 : Int32) cs fm T34.heap n0 O_34 FS Er34 Fc34 Fv34 Vr34 f44 (own_hatq g1 g2 g3 g4 g5 g6 g7 (by decide))) hZ34 (own_w82 hw) (own_w4 hw) (by decide) (by decide)) (g := (mkF m 399 #[.val (.int i0), .val (.int i1), .val (.int i2), .val (.int i3), .val (.int i4), .val (.int 0), .val (.ref b1), .val (.ref b19), .val (.ref nr34), .val (.int 0), .val (.int 0), .val (.int (-1)), .val (.int 0)] [(.int 1), (.int 0), (.int 0), (.ref b1), (.ref nr34)])) rfl (by rw [hml]; rfl) (argsL := [(.ref nr34), (.ref b1), (.int 0), (.int 0), (.int 1)]) (rest := []) (lenOf pd_25 rfl) rfl (by show 2 * 0 + _ ≤ _; exact Nat.le_of_eq rfl) (hb hby at_399) (fun _ _ => ⟨rfl, eh43, (by decide : 11 + 0 ≤ _), (by decide : 34 + 0 ≤ _)⟩)
    dsimp only [Pt.U, Pt.locs, Pt.cells, Pt.slots] at X45 l45 y45 z45 st45 hQ45
    subst l45 y45 z45
    obtain ⟨rfl, Nq45, eh45⟩ := hQ45
    have N45 := Fr.app N43 Nq45
    refine GoesW.step (B := T45.setTop (mkF m 402 #[.val (.int i0), .val (.int i1), .val (.int i2), .val (.int i3), .val (.int i4), .val (.int 0), .val (.ref b1), .val (.ref b19), .val (.ref nr34), .val (.int 0), .val (.int 0), .val (.int (-1)), .val (.int 0)] [(.int 1)])) st45 ?_
    refine GoesW.step (fun _ k => pw_ifNo X45.here hx (hb hby at_402) ((if0 _ _).trans (feq (by decide)).1) _ (pw_aload X45.here hx (hb hby at_405) rfl rfl _ (pw_aload X45.here hx (hb hby at_407) rfl rfl _ (pw_iload X45.here hx (hb hby at_409) rfl _ (pw_iload X45.here hx (hb hby at_411) rfl _ (pw_iconst X45.here hx (v := (2 : Int32)) (hb hby at_413) rfl _ k)))))) ?_
    obtain ⟨_, _, ⟨T46, L46, k46, n46⟩, -, X46, ⟨Lc46, hQ46, l46, y46, z46⟩, st46⟩ := Jvm.LawKit.callS X45 hx (y := (⟨"com/example/partwright/partwright/reader/HeaderValueTypeOfPinLaw", "same", "(Ljava/lang/String;[CIII)Z"⟩ : MethodName)) hown34 (mvT hZ34 (own_w80 hw)) (mvT hZ34 (own_w81 hw)) (mvT hZ34 (own_w4 hw)) (mvT hZ34 (own_w82 hw)) (by decide) (backOf (W := 0) (rmAt l Z a0 hw [] nr34 nv34 nk34 nm34 (own_sub (own_ys []) (own_lo (own_ys [])) nm34) b1 k1 r_3 r_7 r_11 r_15 (2 : Int32) (0 : Int32) (0 : Int32) cs fm T34.heap n0 O_34 FS Er34 Fc34 Fv34 Vr34 f44 (own_hatq g1 g2 g3 g4 g5 g6 g7 (by decide))) hZ34 (own_w82 hw) (own_w4 hw) (by decide) (by decide)) (g := (mkF m 414 #[.val (.int i0), .val (.int i1), .val (.int i2), .val (.int i3), .val (.int i4), .val (.int 0), .val (.ref b1), .val (.ref b19), .val (.ref nr34), .val (.int 0), .val (.int 0), .val (.int (-1)), .val (.int 0)] [(.int 2), (.int 0), (.int 0), (.ref b1), (.ref nr34)])) rfl (by rw [hml]; rfl) (argsL := [(.ref nr34), (.ref b1), (.int 0), (.int 0), (.int 2)]) (rest := []) (lenOf pd_25 rfl) rfl (by show 2 * 0 + _ ≤ _; exact Nat.le_of_eq rfl) (hb hby at_414) (fun _ _ => ⟨rfl, eh45, (by decide : 11 + 0 ≤ _), (by decide : 34 + 0 ≤ _)⟩)
    dsimp only [Pt.U, Pt.locs, Pt.cells, Pt.slots] at X46 l46 y46 z46 st46 hQ46
    subst l46 y46 z46
    obtain ⟨rfl, Nq46, eh46⟩ := hQ46
    have N46 := Fr.app N45 Nq46
    refine GoesW.step (B := T46.setTop (mkF m 417 #[.val (.int i0), .val (.int i1), .val (.int i2), .val (.int i3), .val (.int i4), .val (.int 0), .val (.ref b1), .val (.ref b19), .val (.ref nr34), .val (.int 0), .val (.int 0), .val (.int (-1)), .val (.int 0)] [(.int 1)])) st46 ?_
    refine GoesW.step (fun _ k => pw_ifNo X46.here hx (hb hby at_417) ((if0 _ _).trans (feq (by decide)).1) _ (pw_aload X46.here hx (hb hby at_420) rfl rfl _ (pw_aload X46.here hx (hb hby at_422) rfl rfl _ (pw_iload X46.here hx (hb hby at_424) rfl _ (pw_iload X46.here hx (hb hby at_426) rfl _ (pw_iconst X46.here hx (v := (3 : Int32)) (hb hby at_428) rfl _ k)))))) ?_
    obtain ⟨_, _, ⟨T47, L47, k47, n47⟩, -, X47, ⟨Lc47, hQ47, l47, y47, z47⟩, st47⟩ := Jvm.LawKit.callS X46 hx (y := (⟨"com/example/partwright/partwright/reader/HeaderValueTypeOfPinLaw", "same", "(Ljava/lang/String;[CIII)Z"⟩ : MethodName)) hown34 (mvT hZ34 (own_w80 hw)) (mvT hZ34 (own_w81 hw)) (mvT hZ34 (own_w4 hw)) (mvT hZ34 (own_w82 hw)) (by decide) (backOf (W := 0) (rmAt l Z a0 hw [] nr34 nv34 nk34 nm34 (own_sub (own_ys []) (own_lo (own_ys [])) nm34) b1 k1 r_3 r_7 r_11 r_15 (3 : Int32) (0 : Int32) (0 : Int32) cs fm T34.heap n0 O_34 FS Er34 Fc34 Fv34 Vr34 f44 (own_hatq g1 g2 g3 g4 g5 g6 g7 (by decide))) hZ34 (own_w82 hw) (own_w4 hw) (by decide) (by decide)) (g := (mkF m 429 #[.val (.int i0), .val (.int i1), .val (.int i2), .val (.int i3), .val (.int i4), .val (.int 0), .val (.ref b1), .val (.ref b19), .val (.ref nr34), .val (.int 0), .val (.int 0), .val (.int (-1)), .val (.int 0)] [(.int 3), (.int 0), (.int 0), (.ref b1), (.ref nr34)])) rfl (by rw [hml]; rfl) (argsL := [(.ref nr34), (.ref b1), (.int 0), (.int 0), (.int 3)]) (rest := []) (lenOf pd_25 rfl) rfl (by show 2 * 0 + _ ≤ _; exact Nat.le_of_eq rfl) (hb hby at_429) (fun _ _ => ⟨rfl, eh46, (by decide : 11 + 0 ≤ _), (by decide : 34 + 0 ≤ _)⟩)
    dsimp only [Pt.U, Pt.locs, Pt.cells, Pt.slots] at X47 l47 y47 z47 st47 hQ47
    subst l47 y47 z47
    obtain ⟨rfl, Nq47, eh47⟩ := hQ47
    have N47 := Fr.app N46 Nq47
    refine GoesW.step (B := T47.setTop (mkF m 432 #[.val (.int i0), .val (.int i1), .val (.int i2), .val (.int i3), .val (.int i4), .val (.int 0), .val (.ref b1), .val (.ref b19), .val (.ref nr34), .val (.int 0), .val (.int 0), .val (.int (-1)), .val (.int 0)] [(.int 1)])) st47 ?_
    refine GoesW.step (fun _ k => pw_ifNo X47.here hx (hb hby at_432) ((if0 _ _).trans (feq (by decide)).1) _ (pw_iconst X47.here hx (v := (1 : Int32)) (hb hby at_435) rfl _ (pw_goto X47.here hx (pc' := 440) (hb hby at_436) (by decide) (by decide) _ k))) ?_
    exact GoesW.retN X47 hS34 (Nat.le_refl _) hx eh47 (t := .boolean) Bd.returns (by simp) hlk (hb hby at_440) (by decide) (by decide) (⟨rfl, N47⟩)
  · refine GoesW.step (fun _ k => pw_iload X16.here hx (hb hby at_42) rfl _ k) ?_
    obtain ⟨T48, h48, k48, X48, e48, E48, A48, st48⟩ := newP (aty := .char) X16 hx hZ (own_w1 hw) e16 (g := (mkF m 44 #[.val (.int i0), .val (.int i1), .val (.int i2), .val (.int i3), .val (.int i4), .val (.int 1), .val (.ref b1), .unset, .unset, .unset, .unset, .unset, .unset] [(.int 1)])) rfl (hb hby at_44) rfl (by decide) (cap := 1) (by decide) (by decide) (by decide) (by decide)
    obtain ⟨b48, g48⟩ : ∃ z, z = h16.size := ⟨_, rfl⟩
    rw [← g48] at A48 st48
    have ne_b1_b48 : b1 ≠ b48 := Nat.ne_of_lt (Nat.lt_of_lt_of_le Vn16.lt (Nat.le_of_eq g48.symm))
    have g_b48 : n0 ≤ b48 := Nat.le_trans (own_z O_16) (Nat.le_of_eq g48.symm)
    have Sf_b48 := Safe.ext E48 CH18.1 (Safe.new (Nat.le_of_eq g48.symm))
    have Sf49 := Safe.ext E48 CH18.1 Sf17
    have CH50 := CH18.trans (CHr.ext E48 CH18.1)
    have O_48 := O_16.ext E48
    have V_b48 : Arv Z h48 b48 k48 .char (1 : Int32) [(.int 0)] (.int 0) := (Arv.new A48 (by decide)).pad (pad_rep [] (.int 0) 1)
    refine GoesW.step (B := T48.setTop (mkF m 46 #[.val (.int i0), .val (.int i1), .val (.int i2), .val (.int i3), .val (.int i4), .val (.int 1), .val (.ref b1), .unset, .unset, .unset, .unset, .unset, .unset] [(.ref b48)])) st48 ?_
    refine GoesW.step (fun _ k => pw_astore X48.here hx (l' := #[.val (.int i0), .val (.int i1), .val (.int i2), .val (.int i3), .val (.int i4), .val (.int 1), .val (.ref b1), .val (.ref b48), .unset, .unset, .unset, .unset, .unset]) (hb hby at_46) rfl rfl _ (pw_iload X48.here hx (hb hby at_48) rfl _ (pw_ifNo X48.here hx (hb hby at_50) ((if0 _ _).trans (tlt (by decide)).2.2.2) _ (pw_aload X48.here hx (hb hby at_53) rfl rfl _ (pw_iconst X48.here hx (v := (0 : Int32)) (hb hby at_55) rfl _ (pw_aload X48.here hx (hb hby at_56) rfl rfl _ k)))))) ?_
    refine GoesW.step (fun _ k => pw_iconst X48.here hx (v := (0 : Int32)) (hb hby at_58) rfl _ k) ?_
    have f51 := (Vn16.ext E48)
    obtain ⟨c52, Ar52, -, Sz52, Nn52, Hs52, -⟩ := id f51
    have hin52 : ¬ ((0 : Int32) < 0 ∨ c52.slots.size ≤ ((0 : Int32)).toNatClampNeg) := inb_of Sz52 ⟨by decide, by decide⟩
    refine GoesW.step (B := T48.setTop (mkF m 60 #[.val (.int i0), .val (.int i1), .val (.int i2), .val (.int i3), .val (.int i4), .val (.int 1), .val (.ref b1), .val (.ref b48), .unset, .unset, .unset, .unset, .unset] [(.int r_3), (.int 0), (.ref b48)])) (X48.caload hx (j := (0 : Int32)) (v := (.int r_3)) (by rw [e48]; exact Ar52.1) (State.isArrayOf_alike hZ.alike Ar52.2.1) Ar52.2.2 hin52 (Has.at Hs52 hin52 rfl) (g := (mkF m 59 #[.val (.int i0), .val (.int i1), .val (.int i2), .val (.int i3), .val (.int i4), .val (.int 1), .val (.ref b1), .val (.ref b48), .unset, .unset, .unset, .unset, .unset] [(.int 0), (.ref b1), (.int 0), (.ref b48)])) rfl rfl (hb hby at_59)) ?_
    obtain ⟨c53, Ar53, q53, Sz53, Nn53, Hs53, Gs53⟩ := id V_b48
    have hin53 : ¬ ((0 : Int32) < 0 ∨ c53.slots.size ≤ ((0 : Int32)).toNatClampNeg) := inb_of Sz53 ⟨by decide, by decide⟩
    obtain ⟨T53, h53, X53, e53, W53, st53⟩ := stC X48 hx hZ e48 Ar53 (j := (0 : Int32)) hin53 (g := (mkF m 60 #[.val (.int i0), .val (.int i1), .val (.int i2), .val (.int i3), .val (.int i4), .val (.int 1), .val (.ref b1), .val (.ref b48), .unset, .unset, .unset, .unset, .unset] [(.int r_3), (.int 0), (.ref b48)])) rfl rfl (hb hby at_60)
    have Sf54 := Safe.wr W53 Sf_b48 CH50.1 Sf49
    have Sf55 := Safe.wr W53 Sf_b48 CH50.1 Sf_b48
    have CH56 := CH50.trans (CHr.wr W53 Sf_b48 CH50.1)
    have V53 : Arv Z h53 b48 k48 .char (1 : Int32) [(.int (nar .char r_3))] (.int 0) := Arv.set Ar53 q53 Sz53 Nn53 Hs53 Gs53 (fits_nar_char _) W53 0 rfl (Nat.le_of_ble_eq_true rfl)
    have Vn53 : Arv Z h53 b48 k48 .char (1 : Int32) [(.int r_3)] (.int 0) := by have q := V53; rw [own_nr hok_3] at q; exact q
    have N53 := Fr.snoc X53 N16 g_b48
    have O_53 := O_48.wr W53 g_b48
    refine GoesW.step (B := T53.setTop (mkF m 61 #[.val (.int i0), .val (.int i1), .val (.int i2), .val (.int i3), .val (.int i4), .val (.int 1), .val (.ref b1), .val (.ref b48), .unset, .unset, .unset, .unset, .unset] [])) st53 ?_
    refine GoesW.step (fun _ k => pw_iload X53.here hx (hb hby at_61) rfl _ (pw_iconst X53.here hx (v := (1 : Int32)) (hb hby at_63) rfl _ (pw_icmpYes X53.here hx (pc' := 75) (hb hby at_64) (flt (by decide)).2.2.2 (by decide) (by decide) _ (pw_iload X53.here hx (hb hby at_75) rfl _ (pw_iconst X53.here hx (v := (2 : Int32)) (hb hby at_77) rfl _ (pw_icmpYes X53.here hx (pc' := 89) (hb hby at_78) (flt (by decide)).2.2.2 (by decide) (by decide) _ k)))))) ?_
    refine GoesW.step (fun _ k => pw_iload X53.here hx (hb hby at_89) rfl _ (pw_iconst X53.here hx (v := (3 : Int32)) (hb hby at_91) rfl _ (pw_icmpYes X53.here hx (pc' := 103) (hb hby at_92) (flt (by decide)).2.2.2 (by decide) (by decide) _ k))) ?_
    obtain ⟨T57, h57, X57, e57, E57, A57, D57, -, st57⟩ := newO X53 hx hZ hown (own_w6 hw) (own_w7 hw) (own_w8 hw) e53 (g := (mkF m 103 #[.val (.int i0), .val (.int i1), .val (.int i2), .val (.int i3), .val (.int i4), .val (.int 1), .val (.ref b1), .val (.ref b48), .unset, .unset, .unset, .unset, .unset] [])) rfl (hb hby at_103) (by decide) (by decide)
    obtain ⟨b57, g57⟩ : ∃ z, z = h53.size := ⟨_, rfl⟩
    rw [← g57] at A57 D57 st57
    have f58 := (f51.other W53 ne_b1_b48)
    have ne_b1_b57 : b1 ≠ b57 := Nat.ne_of_lt (Nat.lt_of_lt_of_le f58.lt (Nat.le_of_eq g57.symm))
    have ne_b48_b57 : b48 ≠ b57 := Nat.ne_of_lt (Nat.lt_of_lt_of_le Vn53.lt (Nat.le_of_eq g57.symm))
    have g_b57 : n0 ≤ b57 := Nat.le_trans (own_z O_53) (Nat.le_of_eq g57.symm)
    have Sf_b57 := Safe.ext E57 CH56.1 (Safe.new (Nat.le_of_eq g57.symm))
    have Sf59 := Safe.ext E57 CH56.1 Sf54
    have Sf60 := Safe.ext E57 CH56.1 Sf55
    have CH61 := CH56.trans (CHr.ext E57 CH56.1)
    have O_57 := O_53.ext E57
    have F57_value : Fld Z h57 b57 "java/lang/String" "value" "[B" .null := D57 (Or.inr (own_w21 hw)) (ty := (.array .byte)) (by decide)
    have F57_coder : Fld Z h57 b57 "java/lang/String" "coder" "B" (.int 0) := D57 (Or.inr (own_w22 hw)) (ty := .byte) (by decide)
    refine GoesW.step (B := T57.setTop (mkF m 106 #[.val (.int i0), .val (.int i1), .val (.int i2), .val (.int i3), .val (.int i4), .val (.int 1), .val (.ref b1), .val (.ref b48), .unset, .unset, .unset, .unset, .unset] [(.ref b57)])) st57 ?_
    refine GoesW.step (fun _ k => pw_dup X57.here hx (hb hby at_106) rfl _ (pw_aload X57.here hx (hb hby at_107) rfl rfl _ k)) ?_
    have f63 := (Vn53.ext E57)
    have f64 := S_COMPACT_STRINGS.ext O_57.2
    obtain ⟨_, _, ⟨T62, L62, k62, n62⟩, -, X62, ⟨Lc62, hQ62, l62, y62, z62⟩, st62⟩ := X57.specialBack hx (y := (⟨"java/lang/String", "<init>", "([C)V"⟩ : MethodName)) rfl hown (mvT hZ (own_w9 hw)) (mvT hZ (own_w10 hw)) (mvT hZ (own_w11 hw)) (by decide) (backOf (W := 1) (rmSI_1 l Z a0 hw [] b57 b48 k48 cs r_3 h57 n0 O_57 A57 g_b57 F57_value F57_coder f63 f64 hcs hok_3) hZ (own_w11 hw) (own_w8 hw) (by decide) (by decide)) (g := (mkF m 109 #[.val (.int i0), .val (.int i1), .val (.int i2), .val (.int i3), .val (.int i4), .val (.int 1), .val (.ref b1), .val (.ref b48), .unset, .unset, .unset, .unset, .unset] [(.ref b48), (.ref b57), (.ref b57)])) rfl (by rw [hml]; rfl) (Steps.refl _) (a := b57) (argsL := [(.ref b48)]) (rest := [(.ref b57)]) (lenOf pd_23 rfl) rfl (by show 2 * 0 + _ ≤ _; exact Nat.le_of_eq rfl) (hb hby at_109) (fun _ _ => ⟨rfl, e57, (by decide : 3 + 1 ≤ _), (by decide : 9 + 1 ≤ _)⟩)
    dsimp only [Pt.U, Pt.locs, Pt.cells, Pt.slots] at X62 l62 y62 z62 st62 hQ62
    subst l62 y62 z62
    obtain ⟨rfl, Nq62, Kp62, Ex62, sv62, sk62, Fsv62, Fsc62, Vsv62⟩ := hQ62
    have Sf65 := Safe.keep Kp62 (sfS Sf_b57 sf0) CH61.1 Sf59
    have Sf66 := Safe.keep Kp62 (sfS Sf_b57 sf0) CH61.1 Sf60
    have Sf67 := Safe.keep Kp62 (sfS Sf_b57 sf0) CH61.1 Sf_b57
    have CH68 := CH61.trans (CHr.keep Kp62 (sfS Sf_b57 sf0) CH61.1)
    have O_62 := O_57.keep Kp62 (allS g_b57 all0)
    have N62 := Fr.app N53 Nq62
    refine GoesW.via (B := T62.setTop (mkF m 112 #[.val (.int i0), .val (.int i1), .val (.int i2), .val (.int i3), .val (.int i4), .val (.int 1), .val (.ref b1), .val (.ref b48), .unset, .unset, .unset, .unset, .unset] [(.ref b57)])) st62 ?_
    have f70 := S_COMPACT_STRINGS.ext O_62.2
    obtain ⟨_, vw69, ⟨T69, L69, k69, n69⟩, -, Xr69, S269, sz69, ⟨Lc69, hQ69, l69, y69, z69, Hc69⟩, st69⟩ := callSS X62 hx (y := (⟨"com/example/partwright/partwright/reader/HeaderValue", "typeOf", "(Ljava/lang/String;)Ljava/lang/String;"⟩ : MethodName)) hown (mvT hZ (own_w27 hw)) (mvT hZ (own_w28 hw)) (mvT hZ (own_w29 hw)) (mvT hZ (own_w30 hw)) (by decide) (backOfSH (W := 0) (rmTY l Z a0 hw [] b57 sv62 sk62 (1 : Int32) [(own_b r_3)] cs fm T62.heap n0 O_62 FS Ex62 Fsc62 Fsv62 Vsv62 rfl (by decide)) hZ (own_w30 hw) (own_w29 hw) (by decide) (by decide) (own_EW hw) CH68.1) (g := (mkF m 112 #[.val (.int i0), .val (.int i1), .val (.int i2), .val (.int i3), .val (.int i4), .val (.int 1), .val (.ref b1), .val (.ref b48), .unset, .unset, .unset, .unset, .unset] [(.ref b57)])) rfl (by rw [hml]; rfl) (argsL := [(.ref b57)]) (rest := []) (lenOf pd_24 rfl) rfl (by show 2 * 0 + _ ≤ _; exact Nat.le_of_eq rfl) (hb hby at_112) (fun _ _ => ⟨rfl, rfl, (by decide : 4 + 4 ≤ _), (by decide : 10 + 18 ≤ _)⟩)
    dsimp only [Pt.U, Pt.locs, Pt.cells, Pt.slots] at Xr69 S269 sz69 l69 y69 z69 st69 hQ69 Hc69
    subst l69 y69 z69
    obtain ⟨X69, hS69, hZ69, hown69⟩ := rebS hS0 (by exact (Nat.le_trans (Nat.le_trans (Nat.le_trans (Nat.le_trans (Nat.le_trans (Nat.le_trans (Nat.le_trans (Nat.le_trans (Nat.le_trans (Nat.le_refl _) E1.1) (Nat.le_of_eq W4.size.symm)) (Nat.le_of_eq W8.size.symm)) (Nat.le_of_eq W12.size.symm)) (Nat.le_of_eq W16.size.symm)) E48.1) (Nat.le_of_eq W53.size.symm)) E57.1) Kp62.1)) Xr69 S269 sz69 hZ hown
    have CHc69 := CH68.trans Hc69
    obtain ⟨nr69, nv69, nk69, nm69, rfl, Nq69, Kp69, hnm69, Er69, Fv69, Fc69, Vr69⟩ := hQ69
    have f72 := ((f58.ext E57).keep Kp62 (ninS ne_b1_b57 nin0))
    have Sf71 := CHr.safe Hc69 f72.lt Sf65
    have f74 := (f63.keep Kp62 (ninS ne_b48_b57 nin0))
    have Sf73 := CHr.safe Hc69 f74.lt Sf66
    have Sf75 := CHr.safe Hc69 Ex62.lt Sf67
    have O_69 := O_62.keep Kp69 all0
    have N69 := Fr.app N62 Nq69
    refine GoesW.via (B := T69.setTop (mkF m 115 #[.val (.int i0), .val (.int i1), .val (.int i2), .val (.int i3), .val (.int i4), .val (.int 1), .val (.ref b1), .val (.ref b48), .unset, .unset, .unset, .unset, .unset] [(.ref nr69)])) st69 ?_
    refine GoesW.step (fun _ k => pw_astore X69.here hx (l' := #[.val (.int i0), .val (.int i1), .val (.int i2), .val (.int i3), .val (.int i4), .val (.int 1), .val (.ref b1), .val (.ref b48), .val (.ref nr69), .unset, .unset, .unset, .unset]) (hb hby at_115) rfl rfl _ (pw_iload X69.here hx (hb hby at_117) rfl _ (pw_istore X69.here hx (l' := #[.val (.int i0), .val (.int i1), .val (.int i2), .val (.int i3), .val (.int i4), .val (.int 1), .val (.ref b1), .val (.ref b48), .val (.ref nr69), .val (.int 1), .unset, .unset, .unset]) (hb hby at_119) rfl _ (pw_iload X69.here hx (hb hby at_121) rfl _ (pw_iconst X69.here hx (v := (3 : Int32)) (hb hby at_123) rfl _ (pw_icmpYes X69.here hx (pc' := 139) (hb hby at_124) (flt (by decide)).2.2.2 (by decide) (by decide) _ k)))))) ?_
    refine GoesW.step (fun _ k => pw_iload X69.here hx (hb hby at_139) rfl _ (pw_iconst X69.here hx (v := (2 : Int32)) (hb hby at_141) rfl _ (pw_icmpYes X69.here hx (pc' := 157) (hb hby at_142) (flt (by decide)).2.2.2 (by decide) (by decide) _ (pw_iload X69.here hx (hb hby at_157) rfl _ (pw_iconst X69.here hx (v := (1 : Int32)) (hb hby at_159) rfl _ (pw_icmpYes X69.here hx (pc' := 175) (hb hby at_160) (flt (by decide)).2.2.2 (by decide) (by decide) _ k)))))) ?_
    refine GoesW.step (fun _ k => pw_iload X69.here hx (hb hby at_175) rfl _ (pw_ifNo X69.here hx (hb hby at_177) ((if0 _ _).trans (tlt (by decide)).2.2.2) _ k)) ?_
    have J76 : ∀ (ej0 : Int32), ej0 = (if r_3 = (59 : Int32) then (0 : Int32) else (1 : Int32)) → GoesW p e below s (Q0 Z i0 i1 i2 i3 i4 cs fm h0 n0) room_1.cells room_1.slots (T69.setTop (mkF m 192 #[.val (.int i0), .val (.int i1), .val (.int i2), .val (.int i3), .val (.int i4), .val (.int 1), .val (.ref b1), .val (.ref b48), .val (.ref nr69), .val (.int ej0), .unset, .unset, .unset] [])) := by
     intro ej0 hej0
     have hE : ej0 = own_e1 r_3 := by rw [hej0]; rfl
     obtain ⟨g1, g2, g3, g4, g5, g6, g7⟩ := own_fin1 (c0 := r_3) (c1 := r_7) (c2 := r_11) (c3 := r_15) hok_3
     rw [← hE] at g1 g2 g3 g4 g5 g6 g7
     rw [← hnm69] at g1
     have heb : ej0.toInt ≤ 1 := by rw [hE]; exact own_eb1 r_3
     refine GoesW.step (fun _ k => pw_iload X69.here hx (hb hby at_192) rfl _ (pw_istore X69.here hx (l' := #[.val (.int i0), .val (.int i1), .val (.int i2), .val (.int i3), .val (.int i4), .val (.int 1), .val (.ref b1), .val (.ref b48), .val (.ref nr69), .val (.int ej0), .val (.int ej0), .unset, .unset]) (hb hby at_194) rfl _ (pw_iconst X69.here hx (v := (3 : Int32)) (hb hby at_196) rfl _ (pw_iload X69.here hx (hb hby at_197) rfl _ (pw_icmpYes X69.here hx (pc' := 214) (hb hby at_199) (flt (own_nlt (by rw [show (3 : Int32).toInt = 3 from by decide]; omega))).2.1 (by decide) (by decide) _ (pw_iconst X69.here hx (v := (2 : Int32)) (hb hby at_214) rfl _ k)))))) ?_
     refine GoesW.step (fun _ k => pw_iload X69.here hx (hb hby at_215) rfl _ (pw_icmpYes X69.here hx (pc' := 232) (hb hby at_217) (flt (own_nlt (by rw [show (2 : Int32).toInt = 2 from by decide]; omega))).2.1 (by decide) (by decide) _ (pw_iconst X69.here hx (v := (1 : Int32)) (hb hby at_232) rfl _ (pw_iload X69.here hx (hb hby at_233) rfl _ (pw_icmpYes X69.here hx (pc' := 250) (hb hby at_235) (flt (own_nlt (by rw [show (1 : Int32).toInt = 1 from by decide]; omega))).2.1 (by decide) (by decide) _ k))))) ?_
     have J77 : ∀ (lj0 : Int32), lj0 = own_lq (0 : Int32) ej0 r_3 ej0 → GoesW p e below s (Q0 Z i0 i1 i2 i3 i4 cs fm h0 n0) room_1.cells room_1.slots (T69.setTop (mkF m 268 #[.val (.int i0), .val (.int i1), .val (.int i2), .val (.int i3), .val (.int i4), .val (.int 1), .val (.ref b1), .val (.ref b48), .val (.ref nr69), .val (.int ej0), .val (.int lj0), .unset, .unset] [])) := by
      intro lj0 hlj0
      refine GoesW.step (fun _ k => pw_iconst X69.here hx (v := (-1 : Int32)) (hb hby at_268) rfl _ (pw_istore X69.here hx (l' := #[.val (.int i0), .val (.int i1), .val (.int i2), .val (.int i3), .val (.int i4), .val (.int 1), .val (.ref b1), .val (.ref b48), .val (.ref nr69), .val (.int ej0), .val (.int lj0), .val (.int (-1)), .unset]) (hb hby at_269) rfl _ k)) ?_
      have J78 : ∀ (hj0 : Int32), hj0 = own_lq (0 : Int32) ej0 r_3 (-1 : Int32) → GoesW p e below s (Q0 Z i0 i1 i2 i3 i4 cs fm h0 n0) room_1.cells room_1.slots (T69.setTop (mkF m 289 #[.val (.int i0), .val (.int i1), .val (.int i2), .val (.int i3), .val (.int i4), .val (.int 1), .val (.ref b1), .val (.ref b48), .val (.ref nr69), .val (.int ej0), .val (.int lj0), .val (.int hj0), .unset] [])) := by
       intro hj0 hhj0
       refine GoesW.step (fun _ k => pw_iconst X69.here hx (v := (1 : Int32)) (hb hby at_289) rfl _ (pw_iload X69.here hx (hb hby at_290) rfl _ (pw_icmpYes X69.here hx (pc' := 307) (hb hby at_292) (flt (own_nlt (by rw [show (1 : Int32).toInt = 1 from by decide]; omega))).2.1 (by decide) (by decide) _ (pw_iconst X69.here hx (v := (2 : Int32)) (hb hby at_307) rfl _ (pw_iload X69.here hx (hb hby at_308) rfl _ (pw_icmpYes X69.here hx (pc' := 325) (hb hby at_310) (flt (own_nlt (by rw [show (2 : Int32).toInt = 2 from by decide]; omega))).2.1 (by decide) (by decide) _ k)))))) ?_
       refine GoesW.step (fun _ k => pw_iconst X69.here hx (v := (3 : Int32)) (hb hby at_325) rfl _ (pw_iload X69.here hx (hb hby at_326) rfl _ (pw_icmpYes X69.here hx (pc' := 343) (hb hby at_328) (flt (own_nlt (by rw [show (3 : Int32).toInt = 3 from by decide]; omega))).2.1 (by decide) (by decide) _ k))) ?_
       have J79 : ∀ (mj : Int32), mj = (if hj0 < lj0 then (0 : Int32) else (hj0 - lj0) + (1 : Int32)) → GoesW p e below s (Q0 Z i0 i1 i2 i3 i4 cs fm h0 n0) room_1.cells room_1.slots (T69.setTop (mkF m 363 #[.val (.int i0), .val (.int i1), .val (.int i2), .val (.int i3), .val (.int i4), .val (.int 1), .val (.ref b1), .val (.ref b48), .val (.ref nr69), .val (.int ej0), .val (.int lj0), .val (.int hj0), .val (.int mj)] [])) := by
        intro mj hmj
        rw [← hlj0] at g1 g2 g3 g4 g5
        rw [← hhj0] at g1 g4 g5
        rw [← hmj] at g1 g4 g5
        refine GoesW.step (fun _ k => pw_aload X69.here hx (hb hby at_363) rfl rfl _ k) ?_
        have f81 := S_COMPACT_STRINGS.ext O_69.2
        obtain ⟨cq80, kq80, qa80, qb80, qc80⟩ := isOf hZ69 rfl Er69
        obtain ⟨_, _, ⟨T80, L80, k80, n80⟩, -, X80, ⟨Lc80, hQ80, l80, y80, z80⟩, st80⟩ := X69.virtualBack hx (y := (⟨"java/lang/String", "length", "()I"⟩ : MethodName)) (z := (⟨"java/lang/String", "length", "()I"⟩ : MethodName)) hown69 (mvT hZ69 (own_w79 hw)) (mvT hZ69 (own_w48 hw)) (notFace_of_selects (args := #[]) (mvT hZ69 (own_w50 hw))) (mvT hZ69 (own_w50 hw)) (mvT hZ69 (own_w49 hw)) (by decide) (backOf (W := 0) (rm9 l Z a0 hw [] nr69 nv69 nk69 nm69 (own_sub (own_ys [(own_b r_3)]) (own_lo (own_ys [(own_b r_3)])) nm69) cs T69.heap n0 O_69 f81 hcs Er69 Fc69 Fv69 Vr69) hZ69 (own_w51 hw) (own_w8 hw) (by decide) (by decide)) qa80 qc80 (g := (mkF m 365 #[.val (.int i0), .val (.int i1), .val (.int i2), .val (.int i3), .val (.int i4), .val (.int 1), .val (.ref b1), .val (.ref b48), .val (.ref nr69), .val (.int ej0), .val (.int lj0), .val (.int hj0), .val (.int mj)] [(.ref nr69)])) rfl (by rw [hml]; rfl) (Steps.refl _) (argsL := []) (rest := []) (lenOf pd_13 rfl) rfl (by show 2 * 0 + _ ≤ _; exact Nat.le_of_eq rfl) (hb hby at_365) (fun _ _ => ⟨rfl, rfl, (by decide : 8 + 0 ≤ _), (by decide : 28 + 0 ≤ _)⟩)
        dsimp only [Pt.U, Pt.locs, Pt.cells, Pt.slots] at X80 l80 y80 z80 st80 hQ80
        subst l80 y80 z80
        obtain ⟨rfl, Nq80, eh80⟩ := hQ80
        have N80 := Fr.app N69 Nq80
        refine GoesW.via (B := T80.setTop (mkF m 368 #[.val (.int i0), .val (.int i1), .val (.int i2), .val (.int i3), .val (.int i4), .val (.int 1), .val (.ref b1), .val (.ref b48), .val (.ref nr69), .val (.int ej0), .val (.int lj0), .val (.int hj0), .val (.int mj)] [(.int nm69)])) st80 ?_
        refine GoesW.step (fun _ k => pw_iload X80.here hx (hb hby at_368) rfl _ (pw_icmpYes X80.here hx (pc' := 375) (hb hby at_370) (teq g1).1 (by decide) (by decide) _ (pw_aload X80.here hx (hb hby at_375) rfl rfl _ (pw_aload X80.here hx (hb hby at_377) rfl rfl _ (pw_iload X80.here hx (hb hby at_379) rfl _ (pw_iload X80.here hx (hb hby at_381) rfl _ k)))))) ?_
        refine GoesW.step (fun _ k => pw_iconst X80.here hx (v := (0 : Int32)) (hb hby at_383) rfl _ k) ?_
        have f83 := (f72.keep Kp69 nin0)
        obtain ⟨_, _, ⟨T82, L82, k82, n82⟩, -, X82, ⟨Lc82, hQ82, l82, y82, z82⟩, st82⟩ := Jvm.LawKit.callS X80 hx (y := (⟨"com/example/partwright/partwright/reader/HeaderValueTypeOfPinLaw", "same", "(Ljava/lang/String;[CIII)Z"⟩ : MethodName)) hown69 (mvT hZ69 (own_w80 hw)) (mvT hZ69 (own_w81 hw)) (mvT hZ69 (own_w4 hw)) (mvT hZ69 (own_w82 hw)) (by decide) (backOf (W := 0) (rmAt l Z a0 hw [] nr69 nv69 nk69 nm69 (own_sub (own_ys [(own_b r_3)]) (own_lo (own_ys [(own_b r_3)])) nm69) b1 k1 r_3 r_7 r_11 r_15 (0 : Int32) mj lj0 cs fm T69.heap n0 O_69 FS Er69 Fc69 Fv69 Vr69 f83 (own_hatq g1 g2 g3 g4 g5 g6 g7 (by decide))) hZ69 (own_w82 hw) (own_w4 hw) (by decide) (by decide)) (g := (mkF m 384 #[.val (.int i0), .val (.int i1), .val (.int i2), .val (.int i3), .val (.int i4), .val (.int 1), .val (.ref b1), .val (.ref b48), .val (.ref nr69), .val (.int ej0), .val (.int lj0), .val (.int hj0), .val (.int mj)] [(.int 0), (.int mj), (.int lj0), (.ref b1), (.ref nr69)])) rfl (by rw [hml]; rfl) (argsL := [(.ref nr69), (.ref b1), (.int lj0), (.int mj), (.int 0)]) (rest := []) (lenOf pd_25 rfl) rfl (by show 2 * 0 + _ ≤ _; exact Nat.le_of_eq rfl) (hb hby at_384) (fun _ _ => ⟨rfl, eh80, (by decide : 8 + 0 ≤ _), (by decide : 28 + 0 ≤ _)⟩)
        dsimp only [Pt.U, Pt.locs, Pt.cells, Pt.slots] at X82 l82 y82 z82 st82 hQ82
        subst l82 y82 z82
        obtain ⟨rfl, Nq82, eh82⟩ := hQ82
        have N82 := Fr.app N80 Nq82
        refine GoesW.step (B := T82.setTop (mkF m 387 #[.val (.int i0), .val (.int i1), .val (.int i2), .val (.int i3), .val (.int i4), .val (.int 1), .val (.ref b1), .val (.ref b48), .val (.ref nr69), .val (.int ej0), .val (.int lj0), .val (.int hj0), .val (.int mj)] [(.int 1)])) st82 ?_
        refine GoesW.step (fun _ k => pw_ifNo X82.here hx (hb hby at_387) ((if0 _ _).trans (feq (by decide)).1) _ (pw_aload X82.here hx (hb hby at_390) rfl rfl _ (pw_aload X82.here hx (hb hby at_392) rfl rfl _ (pw_iload X82.here hx (hb hby at_394) rfl _ (pw_iload X82.here hx (hb hby at_396) rfl _ (pw_iconst X82.here hx (v := (1 : Int32)) (hb hby at_398) rfl _ k)))))) ?_
        obtain ⟨_, _, ⟨T84, L84, k84, n84⟩, -, X84, ⟨Lc84, hQ84, l84, y84, z84⟩, st84⟩ := Jvm.LawKit.callS X82 hx (y := (⟨"com/example/partwright/partwright/reader/HeaderValueTypeOfPinLaw", "same", "(Ljava/lang/String;[CIII)Z"⟩ : MethodName)) hown69 (mvT hZ69 (own_w80 hw)) (mvT hZ69 (own_w81 hw)) (mvT hZ69 (own_w4 hw)) (mvT hZ69 (own_w82 hw)) (by decide) (backOf (W := 0) (rmAt l Z a0 hw [] nr69 nv69 nk69 nm69 (own_sub (own_ys [(own_b r_3)]) (own_lo (own_ys [(own_b r_3)])) nm69) b1 k1 r_3 r_7 r_11 r_15 (1 : Int32) mj lj0 cs fm T69.heap n0 O_69 FS Er69 Fc69 Fv69 Vr69 f83 (own_hatq g1 g2 g3 g4 g5 g6 g7 (by decide))) hZ69 (own_w82 hw) (own_w4 hw) (by decide) (by decide)) (g := (mkF m 399 #[.val (.int i0), .val (.int i1), .val (.int i2), .val (.int i3), .val (.int i4), .val (.int 1), .val (.ref b1), .val (.ref b48), .val (.ref nr69), .val (.int ej0), .val (.int lj0), .val (.int hj0), .val (.int mj)] [(.int 1), (.int mj), (.int lj0), (.ref b1), (.ref nr69)])) rfl (by rw [hml]; rfl) (argsL := [(.ref nr69), (.ref b1), (.int lj0), (.int mj), (.int 1)]) (rest := []) (lenOf pd_25 rfl) rfl (by show 2 * 0 + _ ≤ _; exact Nat.le_of_eq rfl) (hb hby at_399) (fun _ _ => ⟨rfl, eh82, (by decide : 8 + 0 ≤ _), (by decide : 28 + 0 ≤ _)⟩)
        dsimp only [Pt.U, Pt.locs, Pt.cells, Pt.slots] at X84 l84 y84 z84 st84 hQ84
        subst l84 y84 z84
        obtain ⟨rfl, Nq84, eh84⟩ := hQ84
        have N84 := Fr.app N82 Nq84
        refine GoesW.step (B := T84.setTop (mkF m 402 #[.val (.int i0), .val (.int i1), .val (.int i2), .val (.int i3), .val (.int i4), .val (.int 1), .val (.ref b1), .val (.ref b48), .val (.ref nr69), .val (.int ej0), .val (.int lj0), .val (.int hj0), .val (.int mj)] [(.int 1)])) st84 ?_
        refine GoesW.step (fun _ k => pw_ifNo X84.here hx (hb hby at_402) ((if0 _ _).trans (feq (by decide)).1) _ (pw_aload X84.here hx (hb hby at_405) rfl rfl _ (pw_aload X84.here hx (hb hby at_407) rfl rfl _ (pw_iload X84.here hx (hb hby at_409) rfl _ (pw_iload X84.here hx (hb hby at_411) rfl _ (pw_iconst X84.here hx (v := (2 : Int32)) (hb hby at_413) rfl _ k)))))) ?_
        obtain ⟨_, _, ⟨T85, L85, k85, n85⟩, -, X85, ⟨Lc85, hQ85, l85, y85, z85⟩, st85⟩ := Jvm.LawKit.callS X84 hx (y := (⟨"com/example/partwright/partwright/reader/HeaderValueTypeOfPinLaw", "same", "(Ljava/lang/String;[CIII)Z"⟩ : MethodName)) hown69 (mvT hZ69 (own_w80 hw)) (mvT hZ69 (own_w81 hw)) (mvT hZ69 (own_w4 hw)) (mvT hZ69 (own_w82 hw)) (by decide) (backOf (W := 0) (rmAt l Z a0 hw [] nr69 nv69 nk69 nm69 (own_sub (own_ys [(own_b r_3)]) (own_lo (own_ys [(own_b r_3)])) nm69) b1 k1 r_3 r_7 r_11 r_15 (2 : Int32) mj lj0 cs fm T69.heap n0 O_69 FS Er69 Fc69 Fv69 Vr69 f83 (own_hatq g1 g2 g3 g4 g5 g6 g7 (by decide))) hZ69 (own_w82 hw) (own_w4 hw) (by decide) (by decide)) (g := (mkF m 414 #[.val (.int i0), .val (.int i1), .val (.int i2), .val (.int i3), .val (.int i4), .val (.int 1), .val (.ref b1), .val (.ref b48), .val (.ref nr69), .val (.int ej0), .val (.int lj0), .val (.int hj0), .val (.int mj)] [(.int 2), (.int mj), (.int lj0), (.ref b1), (.ref nr69)])) rfl (by rw [hml]; rfl) (argsL := [(.ref nr69), (.ref b1), (.int lj0), (.int mj), (.int 2)]) (rest := []) (lenOf pd_25 rfl) rfl (by show 2 * 0 + _ ≤ _; exact Nat.le_of_eq rfl) (hb hby at_414) (fun _ _ => ⟨rfl, eh84, (by decide : 8 + 0 ≤ _), (by decide : 28 + 0 ≤ _)⟩)
        dsimp only [Pt.U, Pt.locs, Pt.cells, Pt.slots] at X85 l85 y85 z85 st85 hQ85
        subst l85 y85 z85
        obtain ⟨rfl, Nq85, eh85⟩ := hQ85
        have N85 := Fr.app N84 Nq85
        refine GoesW.step (B := T85.setTop (mkF m 417 #[.val (.int i0), .val (.int i1), .val (.int i2), .val (.int i3), .val (.int i4), .val (.int 1), .val (.ref b1), .val (.ref b48), .val (.ref nr69), .val (.int ej0), .val (.int lj0), .val (.int hj0), .val (.int mj)] [(.int 1)])) st85 ?_
        refine GoesW.step (fun _ k => pw_ifNo X85.here hx (hb hby at_417) ((if0 _ _).trans (feq (by decide)).1) _ (pw_aload X85.here hx (hb hby at_420) rfl rfl _ (pw_aload X85.here hx (hb hby at_422) rfl rfl _ (pw_iload X85.here hx (hb hby at_424) rfl _ (pw_iload X85.here hx (hb hby at_426) rfl _ (pw_iconst X85.here hx (v := (3 : Int32)) (hb hby at_428) rfl _ k)))))) ?_
        obtain ⟨_, _, ⟨T86, L86, k86, n86⟩, -, X86, ⟨Lc86, hQ86, l86, y86, z86⟩, st86⟩ := Jvm.LawKit.callS X85 hx (y := (⟨"com/example/partwright/partwright/reader/HeaderValueTypeOfPinLaw", "same", "(Ljava/lang/String;[CIII)Z"⟩ : MethodName)) hown69 (mvT hZ69 (own_w80 hw)) (mvT hZ69 (own_w81 hw)) (mvT hZ69 (own_w4 hw)) (mvT hZ69 (own_w82 hw)) (by decide) (backOf (W := 0) (rmAt l Z a0 hw [] nr69 nv69 nk69 nm69 (own_sub (own_ys [(own_b r_3)]) (own_lo (own_ys [(own_b r_3)])) nm69) b1 k1 r_3 r_7 r_11 r_15 (3 : Int32) mj lj0 cs fm T69.heap n0 O_69 FS Er69 Fc69 Fv69 Vr69 f83 (own_hatq g1 g2 g3 g4 g5 g6 g7 (by decide))) hZ69 (own_w82 hw) (own_w4 hw) (by decide) (by decide)) (g := (mkF m 429 #[.val (.int i0), .val (.int i1), .val (.int i2), .val (.int i3), .val (.int i4), .val (.int 1), .val (.ref b1), .val (.ref b48), .val (.ref nr69), .val (.int ej0), .val (.int lj0), .val (.int hj0), .val (.int mj)] [(.int 3), (.int mj), (.int lj0), (.ref b1), (.ref nr69)])) rfl (by rw [hml]; rfl) (argsL := [(.ref nr69), (.ref b1), (.int lj0), (.int mj), (.int 3)]) (rest := []) (lenOf pd_25 rfl) rfl (by show 2 * 0 + _ ≤ _; exact Nat.le_of_eq rfl) (hb hby at_429) (fun _ _ => ⟨rfl, eh85, (by decide : 8 + 0 ≤ _), (by decide : 28 + 0 ≤ _)⟩)
        dsimp only [Pt.U, Pt.locs, Pt.cells, Pt.slots] at X86 l86 y86 z86 st86 hQ86
        subst l86 y86 z86
        obtain ⟨rfl, Nq86, eh86⟩ := hQ86
        have N86 := Fr.app N85 Nq86
        refine GoesW.step (B := T86.setTop (mkF m 432 #[.val (.int i0), .val (.int i1), .val (.int i2), .val (.int i3), .val (.int i4), .val (.int 1), .val (.ref b1), .val (.ref b48), .val (.ref nr69), .val (.int ej0), .val (.int lj0), .val (.int hj0), .val (.int mj)] [(.int 1)])) st86 ?_
        refine GoesW.step (fun _ k => pw_ifNo X86.here hx (hb hby at_432) ((if0 _ _).trans (feq (by decide)).1) _ (pw_iconst X86.here hx (v := (1 : Int32)) (hb hby at_435) rfl _ (pw_goto X86.here hx (pc' := 440) (hb hby at_436) (by decide) (by decide) _ k))) ?_
        exact GoesW.retN X86 hS69 (Nat.le_refl _) hx eh86 (t := .boolean) Bd.returns (by simp) hlk (hb hby at_440) (by decide) (by decide) (⟨rfl, N86⟩)
       refine GoesW.step (fun _ k => pw_iload X69.here hx (hb hby at_343) rfl _ (pw_iload X69.here hx (hb hby at_345) rfl _ k)) ?_
       by_cases hc347_86 : hj0 < lj0
       · refine GoesW.step (fun _ k => pw_icmpYes X69.here hx (pc' := 360) (hb hby at_347) (tlt hc347_86).1 (by decide) (by decide) _ (pw_iconst X69.here hx (v := (0 : Int32)) (hb hby at_360) rfl _ (pw_istore X69.here hx (l' := #[.val (.int i0), .val (.int i1), .val (.int i2), .val (.int i3), .val (.int i4), .val (.int 1), .val (.ref b1), .val (.ref b48), .val (.ref nr69), .val (.int ej0), .val (.int lj0), .val (.int hj0), .val (.int 0)]) (hb hby at_361) rfl _ k))) ?_
         exact J79 (0 : Int32) (by rw [if_pos hc347_86])
       · refine GoesW.step (fun _ k => pw_icmpNo X69.here hx (hb hby at_347) (flt hc347_86).1 _ (pw_iload X69.here hx (hb hby at_350) rfl _ (pw_iload X69.here hx (hb hby at_352) rfl _ (pw_isub X69.here hx (hb hby at_354) _ (pw_iconst X69.here hx (v := (1 : Int32)) (hb hby at_355) rfl _ (pw_iadd X69.here hx (hb hby at_356) _ k)))))) ?_
         refine GoesW.step (fun _ k => pw_goto X69.here hx (pc' := 361) (hb hby at_357) (by decide) (by decide) _ (pw_istore X69.here hx (l' := #[.val (.int i0), .val (.int i1), .val (.int i2), .val (.int i3), .val (.int i4), .val (.int 1), .val (.ref b1), .val (.ref b48), .val (.ref nr69), .val (.int ej0), .val (.int lj0), .val (.int hj0), .val (.int ((hj0 - lj0) + (1 : Int32)))]) (hb hby at_361) rfl _ k)) ?_
         exact J79 ((hj0 - lj0) + (1 : Int32)) (by rw [if_neg hc347_86])
      refine GoesW.step (fun _ k => pw_iconst X69.here hx (v := (0 : Int32)) (hb hby at_271) rfl _ (pw_iload X69.here hx (hb hby at_272) rfl _ k)) ?_
      by_cases hc274_87 : (0 : Int32) < ej0
      · refine GoesW.step (fun _ k => pw_icmpNo X69.here hx (hb hby at_274) (tlt hc274_87).2.1 _ (pw_aload X69.here hx (hb hby at_277) rfl rfl _ (pw_iconst X69.here hx (v := (0 : Int32)) (hb hby at_279) rfl _ k))) ?_
        have f89 := (f72.keep Kp69 nin0)
        obtain ⟨c90, Ar90, -, Sz90, Nn90, Hs90, -⟩ := id f89
        have hin90 : ¬ ((0 : Int32) < 0 ∨ c90.slots.size ≤ ((0 : Int32)).toNatClampNeg) := inb_of Sz90 ⟨by decide, by decide⟩
        refine GoesW.step (B := T69.setTop (mkF m 281 #[.val (.int i0), .val (.int i1), .val (.int i2), .val (.int i3), .val (.int i4), .val (.int 1), .val (.ref b1), .val (.ref b48), .val (.ref nr69), .val (.int ej0), .val (.int lj0), .val (.int (-1)), .unset] [(.int r_3)])) (X69.caload hx (j := (0 : Int32)) (v := (.int r_3)) (by exact Ar90.1) (State.isArrayOf_alike hZ69.alike Ar90.2.1) Ar90.2.2 hin90 (Has.at Hs90 hin90 rfl) (g := (mkF m 280 #[.val (.int i0), .val (.int i1), .val (.int i2), .val (.int i3), .val (.int i4), .val (.int 1), .val (.ref b1), .val (.ref b48), .val (.ref nr69), .val (.int ej0), .val (.int lj0), .val (.int (-1)), .unset] [(.int 0), (.ref b1)])) rfl rfl (hb hby at_280)) ?_
        refine GoesW.step (fun _ k => pw_bipush X69.here hx (v := (32 : Int32)) (hb hby at_281) rfl _ k) ?_
        by_cases hc283_90 : (32 : Int32) < r_3
        · refine GoesW.step (fun _ k => pw_icmpNo X69.here hx (hb hby at_283) (tlt hc283_90).2.2.2 _ (pw_iconst X69.here hx (v := (0 : Int32)) (hb hby at_286) rfl _ (pw_istore X69.here hx (l' := #[.val (.int i0), .val (.int i1), .val (.int i2), .val (.int i3), .val (.int i4), .val (.int 1), .val (.ref b1), .val (.ref b48), .val (.ref nr69), .val (.int ej0), .val (.int lj0), .val (.int 0), .unset]) (hb hby at_287) rfl _ k))) ?_
          exact J78 (0 : Int32) (by rw [own_lq, if_pos hc274_87, if_pos hc283_90])
        · refine GoesW.step (fun _ k => pw_icmpYes X69.here hx (pc' := 289) (hb hby at_283) (flt hc283_90).2.2.2 (by decide) (by decide) _ k) ?_
          exact J78 (-1 : Int32) (by rw [own_lq, if_pos hc274_87, if_neg hc283_90])
      · refine GoesW.step (fun _ k => pw_icmpYes X69.here hx (pc' := 289) (hb hby at_274) (flt hc274_87).2.1 (by decide) (by decide) _ k) ?_
        exact J78 (-1 : Int32) (by rw [own_lq, if_neg hc274_87])
     refine GoesW.step (fun _ k => pw_iconst X69.here hx (v := (0 : Int32)) (hb hby at_250) rfl _ (pw_iload X69.here hx (hb hby at_251) rfl _ k)) ?_
     by_cases hc253_91 : (0 : Int32) < ej0
     · refine GoesW.step (fun _ k => pw_icmpNo X69.here hx (hb hby at_253) (tlt hc253_91).2.1 _ (pw_aload X69.here hx (hb hby at_256) rfl rfl _ (pw_iconst X69.here hx (v := (0 : Int32)) (hb hby at_258) rfl _ k))) ?_
       have f93 := (f72.keep Kp69 nin0)
       obtain ⟨c94, Ar94, -, Sz94, Nn94, Hs94, -⟩ := id f93
       have hin94 : ¬ ((0 : Int32) < 0 ∨ c94.slots.size ≤ ((0 : Int32)).toNatClampNeg) := inb_of Sz94 ⟨by decide, by decide⟩
       refine GoesW.step (B := T69.setTop (mkF m 260 #[.val (.int i0), .val (.int i1), .val (.int i2), .val (.int i3), .val (.int i4), .val (.int 1), .val (.ref b1), .val (.ref b48), .val (.ref nr69), .val (.int ej0), .val (.int ej0), .unset, .unset] [(.int r_3)])) (X69.caload hx (j := (0 : Int32)) (v := (.int r_3)) (by exact Ar94.1) (State.isArrayOf_alike hZ69.alike Ar94.2.1) Ar94.2.2 hin94 (Has.at Hs94 hin94 rfl) (g := (mkF m 259 #[.val (.int i0), .val (.int i1), .val (.int i2), .val (.int i3), .val (.int i4), .val (.int 1), .val (.ref b1), .val (.ref b48), .val (.ref nr69), .val (.int ej0), .val (.int ej0), .unset, .unset] [(.int 0), (.ref b1)])) rfl rfl (hb hby at_259)) ?_
       refine GoesW.step (fun _ k => pw_bipush X69.here hx (v := (32 : Int32)) (hb hby at_260) rfl _ k) ?_
       by_cases hc262_94 : (32 : Int32) < r_3
       · refine GoesW.step (fun _ k => pw_icmpNo X69.here hx (hb hby at_262) (tlt hc262_94).2.2.2 _ (pw_iconst X69.here hx (v := (0 : Int32)) (hb hby at_265) rfl _ (pw_istore X69.here hx (l' := #[.val (.int i0), .val (.int i1), .val (.int i2), .val (.int i3), .val (.int i4), .val (.int 1), .val (.ref b1), .val (.ref b48), .val (.ref nr69), .val (.int ej0), .val (.int 0), .unset, .unset]) (hb hby at_266) rfl _ k))) ?_
         exact J77 (0 : Int32) (by rw [own_lq, if_pos hc253_91, if_pos hc262_94])
       · refine GoesW.step (fun _ k => pw_icmpYes X69.here hx (pc' := 268) (hb hby at_262) (flt hc262_94).2.2.2 (by decide) (by decide) _ k) ?_
         exact J77 ej0 (by rw [own_lq, if_pos hc253_91, if_neg hc262_94])
     · refine GoesW.step (fun _ k => pw_icmpYes X69.here hx (pc' := 268) (hb hby at_253) (flt hc253_91).2.1 (by decide) (by decide) _ k) ?_
       exact J77 ej0 (by rw [own_lq, if_neg hc253_91])
    refine GoesW.step (fun _ k => pw_aload X69.here hx (hb hby at_180) rfl rfl _ (pw_iconst X69.here hx (v := (0 : Int32)) (hb hby at_182) rfl _ k)) ?_
    have f96 := (f72.keep Kp69 nin0)
    obtain ⟨c97, Ar97, -, Sz97, Nn97, Hs97, -⟩ := id f96
    have hin97 : ¬ ((0 : Int32) < 0 ∨ c97.slots.size ≤ ((0 : Int32)).toNatClampNeg) := inb_of Sz97 ⟨by decide, by decide⟩
    refine GoesW.step (B := T69.setTop (mkF m 184 #[.val (.int i0), .val (.int i1), .val (.int i2), .val (.int i3), .val (.int i4), .val (.int 1), .val (.ref b1), .val (.ref b48), .val (.ref nr69), .val (.int 1), .unset, .unset, .unset] [(.int r_3)])) (X69.caload hx (j := (0 : Int32)) (v := (.int r_3)) (by exact Ar97.1) (State.isArrayOf_alike hZ69.alike Ar97.2.1) Ar97.2.2 hin97 (Has.at Hs97 hin97 rfl) (g := (mkF m 183 #[.val (.int i0), .val (.int i1), .val (.int i2), .val (.int i3), .val (.int i4), .val (.int 1), .val (.ref b1), .val (.ref b48), .val (.ref nr69), .val (.int 1), .unset, .unset, .unset] [(.int 0), (.ref b1)])) rfl rfl (hb hby at_183)) ?_
    refine GoesW.step (fun _ k => pw_bipush X69.here hx (v := (59 : Int32)) (hb hby at_184) rfl _ k) ?_
    by_cases hc186_97 : r_3 = (59 : Int32)
    · refine GoesW.step (fun _ k => pw_icmpNo X69.here hx (hb hby at_186) (teq hc186_97).2 _ (pw_iconst X69.here hx (v := (0 : Int32)) (hb hby at_189) rfl _ (pw_istore X69.here hx (l' := #[.val (.int i0), .val (.int i1), .val (.int i2), .val (.int i3), .val (.int i4), .val (.int 1), .val (.ref b1), .val (.ref b48), .val (.ref nr69), .val (.int 0), .unset, .unset, .unset]) (hb hby at_190) rfl _ k))) ?_
      exact J76 (0 : Int32) (by rw [if_pos hc186_97])
    · refine GoesW.step (fun _ k => pw_icmpYes X69.here hx (pc' := 192) (hb hby at_186) (feq hc186_97).2 (by decide) (by decide) _ k) ?_
      exact J76 (1 : Int32) (by rw [if_neg hc186_97])
  · refine GoesW.step (fun _ k => pw_iload X16.here hx (hb hby at_42) rfl _ k) ?_
    obtain ⟨T99, h99, k99, X99, e99, E99, A99, st99⟩ := newP (aty := .char) X16 hx hZ (own_w1 hw) e16 (g := (mkF m 44 #[.val (.int i0), .val (.int i1), .val (.int i2), .val (.int i3), .val (.int i4), .val (.int 2), .val (.ref b1), .unset, .unset, .unset, .unset, .unset, .unset] [(.int 2)])) rfl (hb hby at_44) rfl (by decide) (cap := 2) (by decide) (by decide) (by decide) (by decide)
    obtain ⟨b99, g99⟩ : ∃ z, z = h16.size := ⟨_, rfl⟩
    rw [← g99] at A99 st99
    have ne_b1_b99 : b1 ≠ b99 := Nat.ne_of_lt (Nat.lt_of_lt_of_le Vn16.lt (Nat.le_of_eq g99.symm))
    have g_b99 : n0 ≤ b99 := Nat.le_trans (own_z O_16) (Nat.le_of_eq g99.symm)
    have Sf_b99 := Safe.ext E99 CH18.1 (Safe.new (Nat.le_of_eq g99.symm))
    have Sf100 := Safe.ext E99 CH18.1 Sf17
    have CH101 := CH18.trans (CHr.ext E99 CH18.1)
    have O_99 := O_16.ext E99
    have V_b99 : Arv Z h99 b99 k99 .char (2 : Int32) [(.int 0), (.int 0)] (.int 0) := (Arv.new A99 (by decide)).pad (pad_rep [] (.int 0) 2)
    refine GoesW.step (B := T99.setTop (mkF m 46 #[.val (.int i0), .val (.int i1), .val (.int i2), .val (.int i3), .val (.int i4), .val (.int 2), .val (.ref b1), .unset, .unset, .unset, .unset, .unset, .unset] [(.ref b99)])) st99 ?_
    refine GoesW.step (fun _ k => pw_astore X99.here hx (l' := #[.val (.int i0), .val (.int i1), .val (.int i2), .val (.int i3), .val (.int i4), .val (.int 2), .val (.ref b1), .val (.ref b99), .unset, .unset, .unset, .unset, .unset]) (hb hby at_46) rfl rfl _ (pw_iload X99.here hx (hb hby at_48) rfl _ (pw_ifNo X99.here hx (hb hby at_50) ((if0 _ _).trans (tlt (by decide)).2.2.2) _ (pw_aload X99.here hx (hb hby at_53) rfl rfl _ (pw_iconst X99.here hx (v := (0 : Int32)) (hb hby at_55) rfl _ (pw_aload X99.here hx (hb hby at_56) rfl rfl _ k)))))) ?_
    refine GoesW.step (fun _ k => pw_iconst X99.here hx (v := (0 : Int32)) (hb hby at_58) rfl _ k) ?_
    have f102 := (Vn16.ext E99)
    obtain ⟨c103, Ar103, -, Sz103, Nn103, Hs103, -⟩ := id f102
    have hin103 : ¬ ((0 : Int32) < 0 ∨ c103.slots.size ≤ ((0 : Int32)).toNatClampNeg) := inb_of Sz103 ⟨by decide, by decide⟩
    refine GoesW.step (B := T99.setTop (mkF m 60 #[.val (.int i0), .val (.int i1), .val (.int i2), .val (.int i3), .val (.int i4), .val (.int 2), .val (.ref b1), .val (.ref b99), .unset, .unset, .unset, .unset, .unset] [(.int r_3), (.int 0), (.ref b99)])) (X99.caload hx (j := (0 : Int32)) (v := (.int r_3)) (by rw [e99]; exact Ar103.1) (State.isArrayOf_alike hZ.alike Ar103.2.1) Ar103.2.2 hin103 (Has.at Hs103 hin103 rfl) (g := (mkF m 59 #[.val (.int i0), .val (.int i1), .val (.int i2), .val (.int i3), .val (.int i4), .val (.int 2), .val (.ref b1), .val (.ref b99), .unset, .unset, .unset, .unset, .unset] [(.int 0), (.ref b1), (.int 0), (.ref b99)])) rfl rfl (hb hby at_59)) ?_
    obtain ⟨c104, Ar104, q104, Sz104, Nn104, Hs104, Gs104⟩ := id V_b99
    have hin104 : ¬ ((0 : Int32) < 0 ∨ c104.slots.size ≤ ((0 : Int32)).toNatClampNeg) := inb_of Sz104 ⟨by decide, by decide⟩
    obtain ⟨T104, h104, X104, e104, W104, st104⟩ := stC X99 hx hZ e99 Ar104 (j := (0 : Int32)) hin104 (g := (mkF m 60 #[.val (.int i0), .val (.int i1), .val (.int i2), .val (.int i3), .val (.int i4), .val (.int 2), .val (.ref b1), .val (.ref b99), .unset, .unset, .unset, .unset, .unset] [(.int r_3), (.int 0), (.ref b99)])) rfl rfl (hb hby at_60)
    have Sf105 := Safe.wr W104 Sf_b99 CH101.1 Sf100
    have Sf106 := Safe.wr W104 Sf_b99 CH101.1 Sf_b99
    have CH107 := CH101.trans (CHr.wr W104 Sf_b99 CH101.1)
    have V104 : Arv Z h104 b99 k99 .char (2 : Int32) [(.int (nar .char r_3)), (.int 0)] (.int 0) := Arv.set Ar104 q104 Sz104 Nn104 Hs104 Gs104 (fits_nar_char _) W104 0 rfl (Nat.le_of_ble_eq_true rfl)
    have Vn104 : Arv Z h104 b99 k99 .char (2 : Int32) [(.int r_3), (.int 0)] (.int 0) := by have q := V104; rw [own_nr hok_3] at q; exact q
    have N104 := Fr.snoc X104 N16 g_b99
    have O_104 := O_99.wr W104 g_b99
    refine GoesW.step (B := T104.setTop (mkF m 61 #[.val (.int i0), .val (.int i1), .val (.int i2), .val (.int i3), .val (.int i4), .val (.int 2), .val (.ref b1), .val (.ref b99), .unset, .unset, .unset, .unset, .unset] [])) st104 ?_
    refine GoesW.step (fun _ k => pw_iload X104.here hx (hb hby at_61) rfl _ (pw_iconst X104.here hx (v := (1 : Int32)) (hb hby at_63) rfl _ (pw_icmpNo X104.here hx (hb hby at_64) (tlt (by decide)).2.2.2 _ (pw_aload X104.here hx (hb hby at_67) rfl rfl _ (pw_iconst X104.here hx (v := (1 : Int32)) (hb hby at_69) rfl _ (pw_aload X104.here hx (hb hby at_70) rfl rfl _ k)))))) ?_
    refine GoesW.step (fun _ k => pw_iconst X104.here hx (v := (1 : Int32)) (hb hby at_72) rfl _ k) ?_
    have f108 := (f102.other W104 ne_b1_b99)
    obtain ⟨c109, Ar109, -, Sz109, Nn109, Hs109, -⟩ := id f108
    have hin109 : ¬ ((1 : Int32) < 0 ∨ c109.slots.size ≤ ((1 : Int32)).toNatClampNeg) := inb_of Sz109 ⟨by decide, by decide⟩
    refine GoesW.step (B := T104.setTop (mkF m 74 #[.val (.int i0), .val (.int i1), .val (.int i2), .val (.int i3), .val (.int i4), .val (.int 2), .val (.ref b1), .val (.ref b99), .unset, .unset, .unset, .unset, .unset] [(.int r_7), (.int 1), (.ref b99)])) (X104.caload hx (j := (1 : Int32)) (v := (.int r_7)) (by rw [e104]; exact Ar109.1) (State.isArrayOf_alike hZ.alike Ar109.2.1) Ar109.2.2 hin109 (Has.at Hs109 hin109 rfl) (g := (mkF m 73 #[.val (.int i0), .val (.int i1), .val (.int i2), .val (.int i3), .val (.int i4), .val (.int 2), .val (.ref b1), .val (.ref b99), .unset, .unset, .unset, .unset, .unset] [(.int 1), (.ref b1), (.int 1), (.ref b99)])) rfl rfl (hb hby at_73)) ?_
    obtain ⟨c110, Ar110, q110, Sz110, Nn110, Hs110, Gs110⟩ := id Vn104
    have hin110 : ¬ ((1 : Int32) < 0 ∨ c110.slots.size ≤ ((1 : Int32)).toNatClampNeg) := inb_of Sz110 ⟨by decide, by decide⟩
    obtain ⟨T110, h110, X110, e110, W110, st110⟩ := stC X104 hx hZ e104 Ar110 (j := (1 : Int32)) hin110 (g := (mkF m 74 #[.val (.int i0), .val (.int i1), .val (.int i2), .val (.int i3), .val (.int i4), .val (.int 2), .val (.ref b1), .val (.ref b99), .unset, .unset, .unset, .unset, .unset] [(.int r_7), (.int 1), (.ref b99)])) rfl rfl (hb hby at_74)
    have Sf111 := Safe.wr W110 Sf106 CH107.1 Sf105
    have Sf112 := Safe.wr W110 Sf106 CH107.1 Sf106
    have CH113 := CH107.trans (CHr.wr W110 Sf106 CH107.1)
    have V110 : Arv Z h110 b99 k99 .char (2 : Int32) [(.int r_3), (.int (nar .char r_7))] (.int 0) := Arv.set Ar110 q110 Sz110 Nn110 Hs110 Gs110 (fits_nar_char _) W110 1 rfl (Nat.le_of_ble_eq_true rfl)
    have Vn110 : Arv Z h110 b99 k99 .char (2 : Int32) [(.int r_3), (.int r_7)] (.int 0) := by have q := V110; rw [own_nr hok_7] at q; exact q
    have N110 := Fr.snoc X110 N104 g_b99
    have O_110 := O_104.wr W110 g_b99
    refine GoesW.step (B := T110.setTop (mkF m 75 #[.val (.int i0), .val (.int i1), .val (.int i2), .val (.int i3), .val (.int i4), .val (.int 2), .val (.ref b1), .val (.ref b99), .unset, .unset, .unset, .unset, .unset] [])) st110 ?_
    refine GoesW.step (fun _ k => pw_iload X110.here hx (hb hby at_75) rfl _ (pw_iconst X110.here hx (v := (2 : Int32)) (hb hby at_77) rfl _ (pw_icmpYes X110.here hx (pc' := 89) (hb hby at_78) (flt (by decide)).2.2.2 (by decide) (by decide) _ (pw_iload X110.here hx (hb hby at_89) rfl _ (pw_iconst X110.here hx (v := (3 : Int32)) (hb hby at_91) rfl _ (pw_icmpYes X110.here hx (pc' := 103) (hb hby at_92) (flt (by decide)).2.2.2 (by decide) (by decide) _ k)))))) ?_
    obtain ⟨T114, h114, X114, e114, E114, A114, D114, -, st114⟩ := newO X110 hx hZ hown (own_w6 hw) (own_w7 hw) (own_w8 hw) e110 (g := (mkF m 103 #[.val (.int i0), .val (.int i1), .val (.int i2), .val (.int i3), .val (.int i4), .val (.int 2), .val (.ref b1), .val (.ref b99), .unset, .unset, .unset, .unset, .unset] [])) rfl (hb hby at_103) (by decide) (by decide)
    obtain ⟨b114, g114⟩ : ∃ z, z = h110.size := ⟨_, rfl⟩
    rw [← g114] at A114 D114 st114
    have f115 := (f108.other W110 ne_b1_b99)
    have ne_b1_b114 : b1 ≠ b114 := Nat.ne_of_lt (Nat.lt_of_lt_of_le f115.lt (Nat.le_of_eq g114.symm))
    have ne_b99_b114 : b99 ≠ b114 := Nat.ne_of_lt (Nat.lt_of_lt_of_le Vn110.lt (Nat.le_of_eq g114.symm))
    have g_b114 : n0 ≤ b114 := Nat.le_trans (own_z O_110) (Nat.le_of_eq g114.symm)
    have Sf_b114 := Safe.ext E114 CH113.1 (Safe.new (Nat.le_of_eq g114.symm))
    have Sf116 := Safe.ext E114 CH113.1 Sf111
    have Sf117 := Safe.ext E114 CH113.1 Sf112
    have CH118 := CH113.trans (CHr.ext E114 CH113.1)
    have O_114 := O_110.ext E114
    have F114_value : Fld Z h114 b114 "java/lang/String" "value" "[B" .null := D114 (Or.inr (own_w21 hw)) (ty := (.array .byte)) (by decide)
    have F114_coder : Fld Z h114 b114 "java/lang/String" "coder" "B" (.int 0) := D114 (Or.inr (own_w22 hw)) (ty := .byte) (by decide)
    refine GoesW.step (B := T114.setTop (mkF m 106 #[.val (.int i0), .val (.int i1), .val (.int i2), .val (.int i3), .val (.int i4), .val (.int 2), .val (.ref b1), .val (.ref b99), .unset, .unset, .unset, .unset, .unset] [(.ref b114)])) st114 ?_
    refine GoesW.step (fun _ k => pw_dup X114.here hx (hb hby at_106) rfl _ (pw_aload X114.here hx (hb hby at_107) rfl rfl _ k)) ?_
    have f120 := (Vn110.ext E114)
    have f121 := S_COMPACT_STRINGS.ext O_114.2
    obtain ⟨_, _, ⟨T119, L119, k119, n119⟩, -, X119, ⟨Lc119, hQ119, l119, y119, z119⟩, st119⟩ := X114.specialBack hx (y := (⟨"java/lang/String", "<init>", "([C)V"⟩ : MethodName)) rfl hown (mvT hZ (own_w9 hw)) (mvT hZ (own_w10 hw)) (mvT hZ (own_w11 hw)) (by decide) (backOf (W := 1) (rmSI_2 l Z a0 hw [] b114 b99 k99 cs r_3 r_7 h114 n0 O_114 A114 g_b114 F114_value F114_coder f120 f121 hcs hok_3 hok_7) hZ (own_w11 hw) (own_w8 hw) (by decide) (by decide)) (g := (mkF m 109 #[.val (.int i0), .val (.int i1), .val (.int i2), .val (.int i3), .val (.int i4), .val (.int 2), .val (.ref b1), .val (.ref b99), .unset, .unset, .unset, .unset, .unset] [(.ref b99), (.ref b114), (.ref b114)])) rfl (by rw [hml]; rfl) (Steps.refl _) (a := b114) (argsL := [(.ref b99)]) (rest := [(.ref b114)]) (lenOf pd_23 rfl) rfl (by show 2 * 0 + _ ≤ _; exact Nat.le_of_eq rfl) (hb hby at_109) (fun _ _ => ⟨rfl, e114, (by decide : 3 + 1 ≤ _), (by decide : 10 + 2 ≤ _)⟩)
    dsimp only [Pt.U, Pt.locs, Pt.cells, Pt.slots] at X119 l119 y119 z119 st119 hQ119
    subst l119 y119 z119
    obtain ⟨rfl, Nq119, Kp119, Ex119, sv119, sk119, Fsv119, Fsc119, Vsv119⟩ := hQ119
    have Sf122 := Safe.keep Kp119 (sfS Sf_b114 sf0) CH118.1 Sf116
    have Sf123 := Safe.keep Kp119 (sfS Sf_b114 sf0) CH118.1 Sf117
    have Sf124 := Safe.keep Kp119 (sfS Sf_b114 sf0) CH118.1 Sf_b114
    have CH125 := CH118.trans (CHr.keep Kp119 (sfS Sf_b114 sf0) CH118.1)
    have O_119 := O_114.keep Kp119 (allS g_b114 all0)
    have N119 := Fr.app N110 Nq119
    refine GoesW.via (B := T119.setTop (mkF m 112 #[.val (.int i0), .val (.int i1), .val (.int i2), .val (.int i3), .val (.int i4), .val (.int 2), .val (.ref b1), .val (.ref b99), .unset, .unset, .unset, .unset, .unset] [(.ref b114)])) st119 ?_
    have f127 := S_COMPACT_STRINGS.ext O_119.2
    obtain ⟨_, vw126, ⟨T126, L126, k126, n126⟩, -, Xr126, S2126, sz126, ⟨Lc126, hQ126, l126, y126, z126, Hc126⟩, st126⟩ := callSS X119 hx (y := (⟨"com/example/partwright/partwright/reader/HeaderValue", "typeOf", "(Ljava/lang/String;)Ljava/lang/String;"⟩ : MethodName)) hown (mvT hZ (own_w27 hw)) (mvT hZ (own_w28 hw)) (mvT hZ (own_w29 hw)) (mvT hZ (own_w30 hw)) (by decide) (backOfSH (W := 0) (rmTY l Z a0 hw [] b114 sv119 sk119 (2 : Int32) [(own_b r_3), (own_b r_7)] cs fm T119.heap n0 O_119 FS Ex119 Fsc119 Fsv119 Vsv119 rfl (by decide)) hZ (own_w30 hw) (own_w29 hw) (by decide) (by decide) (own_EW hw) CH125.1) (g := (mkF m 112 #[.val (.int i0), .val (.int i1), .val (.int i2), .val (.int i3), .val (.int i4), .val (.int 2), .val (.ref b1), .val (.ref b99), .unset, .unset, .unset, .unset, .unset] [(.ref b114)])) rfl (by rw [hml]; rfl) (argsL := [(.ref b114)]) (rest := []) (lenOf pd_24 rfl) rfl (by show 2 * 0 + _ ≤ _; exact Nat.le_of_eq rfl) (hb hby at_112) (fun _ _ => ⟨rfl, rfl, (by decide : 4 + 4 ≤ _), (by decide : 12 + 18 ≤ _)⟩)
    dsimp only [Pt.U, Pt.locs, Pt.cells, Pt.slots] at Xr126 S2126 sz126 l126 y126 z126 st126 hQ126 Hc126
    subst l126 y126 z126
    obtain ⟨X126, hS126, hZ126, hown126⟩ := rebS hS0 (by exact (Nat.le_trans (Nat.le_trans (Nat.le_trans (Nat.le_trans (Nat.le_trans (Nat.le_trans (Nat.le_trans (Nat.le_trans (Nat.le_trans (Nat.le_trans (Nat.le_refl _) E1.1) (Nat.le_of_eq W4.size.symm)) (Nat.le_of_eq W8.size.symm)) (Nat.le_of_eq W12.size.symm)) (Nat.le_of_eq W16.size.symm)) E99.1) (Nat.le_of_eq W104.size.symm)) (Nat.le_of_eq W110.size.symm)) E114.1) Kp119.1)) Xr126 S2126 sz126 hZ hown
    have CHc126 := CH125.trans Hc126
    obtain ⟨nr126, nv126, nk126, nm126, rfl, Nq126, Kp126, hnm126, Er126, Fv126, Fc126, Vr126⟩ := hQ126
    have f129 := ((f115.ext E114).keep Kp119 (ninS ne_b1_b114 nin0))
    have Sf128 := CHr.safe Hc126 f129.lt Sf122
    have f131 := (f120.keep Kp119 (ninS ne_b99_b114 nin0))
    have Sf130 := CHr.safe Hc126 f131.lt Sf123
    have Sf132 := CHr.safe Hc126 Ex119.lt Sf124
    have O_126 := O_119.keep Kp126 all0
    have N126 := Fr.app N119 Nq126
    refine GoesW.via (B := T126.setTop (mkF m 115 #[.val (.int i0), .val (.int i1), .val (.int i2), .val (.int i3), .val (.int i4), .val (.int 2), .val (.ref b1), .val (.ref b99), .unset, .unset, .unset, .unset, .unset] [(.ref nr126)])) st126 ?_
    refine GoesW.step (fun _ k => pw_astore X126.here hx (l' := #[.val (.int i0), .val (.int i1), .val (.int i2), .val (.int i3), .val (.int i4), .val (.int 2), .val (.ref b1), .val (.ref b99), .val (.ref nr126), .unset, .unset, .unset, .unset]) (hb hby at_115) rfl rfl _ (pw_iload X126.here hx (hb hby at_117) rfl _ (pw_istore X126.here hx (l' := #[.val (.int i0), .val (.int i1), .val (.int i2), .val (.int i3), .val (.int i4), .val (.int 2), .val (.ref b1), .val (.ref b99), .val (.ref nr126), .val (.int 2), .unset, .unset, .unset]) (hb hby at_119) rfl _ (pw_iload X126.here hx (hb hby at_121) rfl _ (pw_iconst X126.here hx (v := (3 : Int32)) (hb hby at_123) rfl _ (pw_icmpYes X126.here hx (pc' := 139) (hb hby at_124) (flt (by decide)).2.2.2 (by decide) (by decide) _ k)))))) ?_
    refine GoesW.step (fun _ k => pw_iload X126.here hx (hb hby at_139) rfl _ (pw_iconst X126.here hx (v := (2 : Int32)) (hb hby at_141) rfl _ (pw_icmpYes X126.here hx (pc' := 157) (hb hby at_142) (flt (by decide)).2.2.2 (by decide) (by decide) _ (pw_iload X126.here hx (hb hby at_157) rfl _ (pw_iconst X126.here hx (v := (1 : Int32)) (hb hby at_159) rfl _ (pw_icmpNo X126.here hx (hb hby at_160) (tlt (by decide)).2.2.2 _ k)))))) ?_
    have J133 : ∀ (ej1 : Int32), ej1 = (if r_7 = (59 : Int32) then (1 : Int32) else (2 : Int32)) → GoesW p e below s (Q0 Z i0 i1 i2 i3 i4 cs fm h0 n0) room_1.cells room_1.slots (T126.setTop (mkF m 175 #[.val (.int i0), .val (.int i1), .val (.int i2), .val (.int i3), .val (.int i4), .val (.int 2), .val (.ref b1), .val (.ref b99), .val (.ref nr126), .val (.int ej1), .unset, .unset, .unset] [])) := by
     intro ej1 hej1
     refine GoesW.step (fun _ k => pw_iload X126.here hx (hb hby at_175) rfl _ (pw_ifNo X126.here hx (hb hby at_177) ((if0 _ _).trans (tlt (by decide)).2.2.2) _ k)) ?_
     have J134 : ∀ (ej0 : Int32), ej0 = (if r_3 = (59 : Int32) then (0 : Int32) else ej1) → GoesW p e below s (Q0 Z i0 i1 i2 i3 i4 cs fm h0 n0) room_1.cells room_1.slots (T126.setTop (mkF m 192 #[.val (.int i0), .val (.int i1), .val (.int i2), .val (.int i3), .val (.int i4), .val (.int 2), .val (.ref b1), .val (.ref b99), .val (.ref nr126), .val (.int ej0), .unset, .unset, .unset] [])) := by
      intro ej0 hej0
      have hE : ej0 = own_e2 r_3 r_7 := by rw [hej0, hej1]; rfl
      obtain ⟨g1, g2, g3, g4, g5, g6, g7⟩ := own_fin2 (c0 := r_3) (c1 := r_7) (c2 := r_11) (c3 := r_15) hok_3 hok_7
      rw [← hE] at g1 g2 g3 g4 g5 g6 g7
      rw [← hnm126] at g1
      have heb : ej0.toInt ≤ 2 := by rw [hE]; exact own_eb2 r_3 r_7
      refine GoesW.step (fun _ k => pw_iload X126.here hx (hb hby at_192) rfl _ (pw_istore X126.here hx (l' := #[.val (.int i0), .val (.int i1), .val (.int i2), .val (.int i3), .val (.int i4), .val (.int 2), .val (.ref b1), .val (.ref b99), .val (.ref nr126), .val (.int ej0), .val (.int ej0), .unset, .unset]) (hb hby at_194) rfl _ (pw_iconst X126.here hx (v := (3 : Int32)) (hb hby at_196) rfl _ (pw_iload X126.here hx (hb hby at_197) rfl _ (pw_icmpYes X126.here hx (pc' := 214) (hb hby at_199) (flt (own_nlt (by rw [show (3 : Int32).toInt = 3 from by decide]; omega))).2.1 (by decide) (by decide) _ (pw_iconst X126.here hx (v := (2 : Int32)) (hb hby at_214) rfl _ k)))))) ?_
      refine GoesW.step (fun _ k => pw_iload X126.here hx (hb hby at_215) rfl _ (pw_icmpYes X126.here hx (pc' := 232) (hb hby at_217) (flt (own_nlt (by rw [show (2 : Int32).toInt = 2 from by decide]; omega))).2.1 (by decide) (by decide) _ k)) ?_
      have J135 : ∀ (lj1 : Int32), lj1 = own_lq (1 : Int32) ej0 r_7 ej0 → GoesW p e below s (Q0 Z i0 i1 i2 i3 i4 cs fm h0 n0) room_1.cells room_1.slots (T126.setTop (mkF m 250 #[.val (.int i0), .val (.int i1), .val (.int i2), .val (.int i3), .val (.int i4), .val (.int 2), .val (.ref b1), .val (.ref b99), .val (.ref nr126), .val (.int ej0), .val (.int lj1), .unset, .unset] [])) := by
       intro lj1 hlj1
       have J136 : ∀ (lj0 : Int32), lj0 = own_lq (0 : Int32) ej0 r_3 lj1 → GoesW p e below s (Q0 Z i0 i1 i2 i3 i4 cs fm h0 n0) room_1.cells room_1.slots (T126.setTop (mkF m 268 #[.val (.int i0), .val (.int i1), .val (.int i2), .val (.int i3), .val (.int i4), .val (.int 2), .val (.ref b1), .val (.ref b99), .val (.ref nr126), .val (.int ej0), .val (.int lj0), .unset, .unset] [])) := by
        intro lj0 hlj0
        refine GoesW.step (fun _ k => pw_iconst X126.here hx (v := (-1 : Int32)) (hb hby at_268) rfl _ (pw_istore X126.here hx (l' := #[.val (.int i0), .val (.int i1), .val (.int i2), .val (.int i3), .val (.int i4), .val (.int 2), .val (.ref b1), .val (.ref b99), .val (.ref nr126), .val (.int ej0), .val (.int lj0), .val (.int (-1)), .unset]) (hb hby at_269) rfl _ k)) ?_
        have J137 : ∀ (hj0 : Int32), hj0 = own_lq (0 : Int32) ej0 r_3 (-1 : Int32) → GoesW p e below s (Q0 Z i0 i1 i2 i3 i4 cs fm h0 n0) room_1.cells room_1.slots (T126.setTop (mkF m 289 #[.val (.int i0), .val (.int i1), .val (.int i2), .val (.int i3), .val (.int i4), .val (.int 2), .val (.ref b1), .val (.ref b99), .val (.ref nr126), .val (.int ej0), .val (.int lj0), .val (.int hj0), .unset] [])) := by
         intro hj0 hhj0
         have J138 : ∀ (hj1 : Int32), hj1 = own_lq (1 : Int32) ej0 r_7 hj0 → GoesW p e below s (Q0 Z i0 i1 i2 i3 i4 cs fm h0 n0) room_1.cells room_1.slots (T126.setTop (mkF m 307 #[.val (.int i0), .val (.int i1), .val (.int i2), .val (.int i3), .val (.int i4), .val (.int 2), .val (.ref b1), .val (.ref b99), .val (.ref nr126), .val (.int ej0), .val (.int lj0), .val (.int hj1), .unset] [])) := by
          intro hj1 hhj1
          refine GoesW.step (fun _ k => pw_iconst X126.here hx (v := (2 : Int32)) (hb hby at_307) rfl _ (pw_iload X126.here hx (hb hby at_308) rfl _ (pw_icmpYes X126.here hx (pc' := 325) (hb hby at_310) (flt (own_nlt (by rw [show (2 : Int32).toInt = 2 from by decide]; omega))).2.1 (by decide) (by decide) _ (pw_iconst X126.here hx (v := (3 : Int32)) (hb hby at_325) rfl _ (pw_iload X126.here hx (hb hby at_326) rfl _ (pw_icmpYes X126.here hx (pc' := 343) (hb hby at_328) (flt (own_nlt (by rw [show (3 : Int32).toInt = 3 from by decide]; omega))).2.1 (by decide) (by decide) _ k)))))) ?_
          have J139 : ∀ (mj : Int32), mj = (if hj1 < lj0 then (0 : Int32) else (hj1 - lj0) + (1 : Int32)) → GoesW p e below s (Q0 Z i0 i1 i2 i3 i4 cs fm h0 n0) room_1.cells room_1.slots (T126.setTop (mkF m 363 #[.val (.int i0), .val (.int i1), .val (.int i2), .val (.int i3), .val (.int i4), .val (.int 2), .val (.ref b1), .val (.ref b99), .val (.ref nr126), .val (.int ej0), .val (.int lj0), .val (.int hj1), .val (.int mj)] [])) := by
           intro mj hmj
           rw [← hlj1] at g1 g2 g3 g4 g5
           rw [← hlj0] at g1 g2 g3 g4 g5
           rw [← hhj0] at g1 g4 g5
           rw [← hhj1] at g1 g4 g5
           rw [← hmj] at g1 g4 g5
           refine GoesW.step (fun _ k => pw_aload X126.here hx (hb hby at_363) rfl rfl _ k) ?_
           have f141 := S_COMPACT_STRINGS.ext O_126.2
           obtain ⟨cq140, kq140, qa140, qb140, qc140⟩ := isOf hZ126 rfl Er126
           obtain ⟨_, _, ⟨T140, L140, k140, n140⟩, -, X140, ⟨Lc140, hQ140, l140, y140, z140⟩, st140⟩ := X126.virtualBack hx (y := (⟨"java/lang/String", "length", "()I"⟩ : MethodName)) (z := (⟨"java/lang/String", "length", "()I"⟩ : MethodName)) hown126 (mvT hZ126 (own_w79 hw)) (mvT hZ126 (own_w48 hw)) (notFace_of_selects (args := #[]) (mvT hZ126 (own_w50 hw))) (mvT hZ126 (own_w50 hw)) (mvT hZ126 (own_w49 hw)) (by decide) (backOf (W := 0) (rm9 l Z a0 hw [] nr126 nv126 nk126 nm126 (own_sub (own_ys [(own_b r_3), (own_b r_7)]) (own_lo (own_ys [(own_b r_3), (own_b r_7)])) nm126) cs T126.heap n0 O_126 f141 hcs Er126 Fc126 Fv126 Vr126) hZ126 (own_w51 hw) (own_w8 hw) (by decide) (by decide)) qa140 qc140 (g := (mkF m 365 #[.val (.int i0), .val (.int i1), .val (.int i2), .val (.int i3), .val (.int i4), .val (.int 2), .val (.ref b1), .val (.ref b99), .val (.ref nr126), .val (.int ej0), .val (.int lj0), .val (.int hj1), .val (.int mj)] [(.ref nr126)])) rfl (by rw [hml]; rfl) (Steps.refl _) (argsL := []) (rest := []) (lenOf pd_13 rfl) rfl (by show 2 * 0 + _ ≤ _; exact Nat.le_of_eq rfl) (hb hby at_365) (fun _ _ => ⟨rfl, rfl, (by decide : 8 + 0 ≤ _), (by decide : 30 + 0 ≤ _)⟩)
           dsimp only [Pt.U, Pt.locs, Pt.cells, Pt.slots] at X140 l140 y140 z140 st140 hQ140
           subst l140 y140 z140
           obtain ⟨rfl, Nq140, eh140⟩ := hQ140
           have N140 := Fr.app N126 Nq140
           refine GoesW.via (B := T140.setTop (mkF m 368 #[.val (.int i0), .val (.int i1), .val (.int i2), .val (.int i3), .val (.int i4), .val (.int 2), .val (.ref b1), .val (.ref b99), .val (.ref nr126), .val (.int ej0), .val (.int lj0), .val (.int hj1), .val (.int mj)] [(.int nm126)])) st140 ?_
           refine GoesW.step (fun _ k => pw_iload X140.here hx (hb hby at_368) rfl _ (pw_icmpYes X140.here hx (pc' := 375) (hb hby at_370) (teq g1).1 (by decide) (by decide) _ (pw_aload X140.here hx (hb hby at_375) rfl rfl _ (pw_aload X140.here hx (hb hby at_377) rfl rfl _ (pw_iload X140.here hx (hb hby at_379) rfl _ (pw_iload X140.here hx (hb hby at_381) rfl _ k)))))) ?_
           refine GoesW.step (fun _ k => pw_iconst X140.here hx (v := (0 : Int32)) (hb hby at_383) rfl _ k) ?_
           have f143 := (f129.keep Kp126 nin0)
           obtain ⟨_, _, ⟨T142, L142, k142, n142⟩, -, X142, ⟨Lc142, hQ142, l142, y142, z142⟩, st142⟩ := Jvm.LawKit.callS X140 hx (y := (⟨"com/example/partwright/partwright/reader/HeaderValueTypeOfPinLaw", "same", "(Ljava/lang/String;[CIII)Z"⟩ : MethodName)) hown126 (mvT hZ126 (own_w80 hw)) (mvT hZ126 (own_w81 hw)) (mvT hZ126 (own_w4 hw)) (mvT hZ126 (own_w82 hw)) (by decide) (backOf (W := 0) (rmAt l Z a0 hw [] nr126 nv126 nk126 nm126 (own_sub (own_ys [(own_b r_3), (own_b r_7)]) (own_lo (own_ys [(own_b r_3), (own_b r_7)])) nm126) b1 k1 r_3 r_7 r_11 r_15 (0 : Int32) mj lj0 cs fm T126.heap n0 O_126 FS Er126 Fc126 Fv126 Vr126 f143 (own_hatq g1 g2 g3 g4 g5 g6 g7 (by decide))) hZ126 (own_w82 hw) (own_w4 hw) (by decide) (by decide)) (g := (mkF m 384 #[.val (.int i0), .val (.int i1), .val (.int i2), .val (.int i3), .val (.int i4), .val (.int 2), .val (.ref b1), .val (.ref b99), .val (.ref nr126), .val (.int ej0), .val (.int lj0), .val (.int hj1), .val (.int mj)] [(.int 0), (.int mj), (.int lj0), (.ref b1), (.ref nr126)])) rfl (by rw [hml]; rfl) (argsL := [(.ref nr126), (.ref b1), (.int lj0), (.int mj), (.int 0)]) (rest := []) (lenOf pd_25 rfl) rfl (by show 2 * 0 + _ ≤ _; exact Nat.le_of_eq rfl) (hb hby at_384) (fun _ _ => ⟨rfl, eh140, (by decide : 8 + 0 ≤ _), (by decide : 30 + 0 ≤ _)⟩)
           dsimp only [Pt.U, Pt.locs, Pt.cells, Pt.slots] at X142 l142 y142 z142 st142 hQ142
           subst l142 y142 z142
           obtain ⟨rfl, Nq142, eh142⟩ := hQ142
           have N142 := Fr.app N140 Nq142
           refine GoesW.step (B := T142.setTop (mkF m 387 #[.val (.int i0), .val (.int i1), .val (.int i2), .val (.int i3), .val (.int i4), .val (.int 2), .val (.ref b1), .val (.ref b99), .val (.ref nr126), .val (.int ej0), .val (.int lj0), .val (.int hj1), .val (.int mj)] [(.int 1)])) st142 ?_
           refine GoesW.step (fun _ k => pw_ifNo X142.here hx (hb hby at_387) ((if0 _ _).trans (feq (by decide)).1) _ (pw_aload X142.here hx (hb hby at_390) rfl rfl _ (pw_aload X142.here hx (hb hby at_392) rfl rfl _ (pw_iload X142.here hx (hb hby at_394) rfl _ (pw_iload X142.here hx (hb hby at_396) rfl _ (pw_iconst X142.here hx (v := (1 : Int32)) (hb hby at_398) rfl _ k)))))) ?_
           obtain ⟨_, _, ⟨T144, L144, k144, n144⟩, -, X144, ⟨Lc144, hQ144, l144, y144, z144⟩, st144⟩ := Jvm.LawKit.callS X142 hx (y := (⟨"com/example/partwright/partwright/reader/HeaderValueTypeOfPinLaw", "same", "(Ljava/lang/String;[CIII)Z"⟩ : MethodName)) hown126 (mvT hZ126 (own_w80 hw)) (mvT hZ126 (own_w81 hw)) (mvT hZ126 (own_w4 hw)) (mvT hZ126 (own_w82 hw)) (by decide) (backOf (W := 0) (rmAt l Z a0 hw [] nr126 nv126 nk126 nm126 (own_sub (own_ys [(own_b r_3), (own_b r_7)]) (own_lo (own_ys [(own_b r_3), (own_b r_7)])) nm126) b1 k1 r_3 r_7 r_11 r_15 (1 : Int32) mj lj0 cs fm T126.heap n0 O_126 FS Er126 Fc126 Fv126 Vr126 f143 (own_hatq g1 g2 g3 g4 g5 g6 g7 (by decide))) hZ126 (own_w82 hw) (own_w4 hw) (by decide) (by decide)) (g := (mkF m 399 #[.val (.int i0), .val (.int i1), .val (.int i2), .val (.int i3), .val (.int i4), .val (.int 2), .val (.ref b1), .val (.ref b99), .val (.ref nr126), .val (.int ej0), .val (.int lj0), .val (.int hj1), .val (.int mj)] [(.int 1), (.int mj), (.int lj0), (.ref b1), (.ref nr126)])) rfl (by rw [hml]; rfl) (argsL := [(.ref nr126), (.ref b1), (.int lj0), (.int mj), (.int 1)]) (rest := []) (lenOf pd_25 rfl) rfl (by show 2 * 0 + _ ≤ _; exact Nat.le_of_eq rfl) (hb hby at_399) (fun _ _ => ⟨rfl, eh142, (by decide : 8 + 0 ≤ _), (by decide : 30 + 0 ≤ _)⟩)
           dsimp only [Pt.U, Pt.locs, Pt.cells, Pt.slots] at X144 l144 y144 z144 st144 hQ144
           subst l144 y144 z144
           obtain ⟨rfl, Nq144, eh144⟩ := hQ144
           have N144 := Fr.app N142 Nq144
           refine GoesW.step (B := T144.setTop (mkF m 402 #[.val (.int i0), .val (.int i1), .val (.int i2), .val (.int i3), .val (.int i4), .val (.int 2), .val (.ref b1), .val (.ref b99), .val (.ref nr126), .val (.int ej0), .val (.int lj0), .val (.int hj1), .val (.int mj)] [(.int 1)])) st144 ?_
           refine GoesW.step (fun _ k => pw_ifNo X144.here hx (hb hby at_402) ((if0 _ _).trans (feq (by decide)).1) _ (pw_aload X144.here hx (hb hby at_405) rfl rfl _ (pw_aload X144.here hx (hb hby at_407) rfl rfl _ (pw_iload X144.here hx (hb hby at_409) rfl _ (pw_iload X144.here hx (hb hby at_411) rfl _ (pw_iconst X144.here hx (v := (2 : Int32)) (hb hby at_413) rfl _ k)))))) ?_
           obtain ⟨_, _, ⟨T145, L145, k145, n145⟩, -, X145, ⟨Lc145, hQ145, l145, y145, z145⟩, st145⟩ := Jvm.LawKit.callS X144 hx (y := (⟨"com/example/partwright/partwright/reader/HeaderValueTypeOfPinLaw", "same", "(Ljava/lang/String;[CIII)Z"⟩ : MethodName)) hown126 (mvT hZ126 (own_w80 hw)) (mvT hZ126 (own_w81 hw)) (mvT hZ126 (own_w4 hw)) (mvT hZ126 (own_w82 hw)) (by decide) (backOf (W := 0) (rmAt l Z a0 hw [] nr126 nv126 nk126 nm126 (own_sub (own_ys [(own_b r_3), (own_b r_7)]) (own_lo (own_ys [(own_b r_3), (own_b r_7)])) nm126) b1 k1 r_3 r_7 r_11 r_15 (2 : Int32) mj lj0 cs fm T126.heap n0 O_126 FS Er126 Fc126 Fv126 Vr126 f143 (own_hatq g1 g2 g3 g4 g5 g6 g7 (by decide))) hZ126 (own_w82 hw) (own_w4 hw) (by decide) (by decide)) (g := (mkF m 414 #[.val (.int i0), .val (.int i1), .val (.int i2), .val (.int i3), .val (.int i4), .val (.int 2), .val (.ref b1), .val (.ref b99), .val (.ref nr126), .val (.int ej0), .val (.int lj0), .val (.int hj1), .val (.int mj)] [(.int 2), (.int mj), (.int lj0), (.ref b1), (.ref nr126)])) rfl (by rw [hml]; rfl) (argsL := [(.ref nr126), (.ref b1), (.int lj0), (.int mj), (.int 2)]) (rest := []) (lenOf pd_25 rfl) rfl (by show 2 * 0 + _ ≤ _; exact Nat.le_of_eq rfl) (hb hby at_414) (fun _ _ => ⟨rfl, eh144, (by decide : 8 + 0 ≤ _), (by decide : 30 + 0 ≤ _)⟩)
           dsimp only [Pt.U, Pt.locs, Pt.cells, Pt.slots] at X145 l145 y145 z145 st145 hQ145
           subst l145 y145 z145
           obtain ⟨rfl, Nq145, eh145⟩ := hQ145
           have N145 := Fr.app N144 Nq145
           refine GoesW.step (B := T145.setTop (mkF m 417 #[.val (.int i0), .val (.int i1), .val (.int i2), .val (.int i3), .val (.int i4), .val (.int 2), .val (.ref b1), .val (.ref b99), .val (.ref nr126), .val (.int ej0), .val (.int lj0), .val (.int hj1), .val (.int mj)] [(.int 1)])) st145 ?_
           refine GoesW.step (fun _ k => pw_ifNo X145.here hx (hb hby at_417) ((if0 _ _).trans (feq (by decide)).1) _ (pw_aload X145.here hx (hb hby at_420) rfl rfl _ (pw_aload X145.here hx (hb hby at_422) rfl rfl _ (pw_iload X145.here hx (hb hby at_424) rfl _ (pw_iload X145.here hx (hb hby at_426) rfl _ (pw_iconst X145.here hx (v := (3 : Int32)) (hb hby at_428) rfl _ k)))))) ?_
           obtain ⟨_, _, ⟨T146, L146, k146, n146⟩, -, X146, ⟨Lc146, hQ146, l146, y146, z146⟩, st146⟩ := Jvm.LawKit.callS X145 hx (y := (⟨"com/example/partwright/partwright/reader/HeaderValueTypeOfPinLaw", "same", "(Ljava/lang/String;[CIII)Z"⟩ : MethodName)) hown126 (mvT hZ126 (own_w80 hw)) (mvT hZ126 (own_w81 hw)) (mvT hZ126 (own_w4 hw)) (mvT hZ126 (own_w82 hw)) (by decide) (backOf (W := 0) (rmAt l Z a0 hw [] nr126 nv126 nk126 nm126 (own_sub (own_ys [(own_b r_3), (own_b r_7)]) (own_lo (own_ys [(own_b r_3), (own_b r_7)])) nm126) b1 k1 r_3 r_7 r_11 r_15 (3 : Int32) mj lj0 cs fm T126.heap n0 O_126 FS Er126 Fc126 Fv126 Vr126 f143 (own_hatq g1 g2 g3 g4 g5 g6 g7 (by decide))) hZ126 (own_w82 hw) (own_w4 hw) (by decide) (by decide)) (g := (mkF m 429 #[.val (.int i0), .val (.int i1), .val (.int i2), .val (.int i3), .val (.int i4), .val (.int 2), .val (.ref b1), .val (.ref b99), .val (.ref nr126), .val (.int ej0), .val (.int lj0), .val (.int hj1), .val (.int mj)] [(.int 3), (.int mj), (.int lj0), (.ref b1), (.ref nr126)])) rfl (by rw [hml]; rfl) (argsL := [(.ref nr126), (.ref b1), (.int lj0), (.int mj), (.int 3)]) (rest := []) (lenOf pd_25 rfl) rfl (by show 2 * 0 + _ ≤ _; exact Nat.le_of_eq rfl) (hb hby at_429) (fun _ _ => ⟨rfl, eh145, (by decide : 8 + 0 ≤ _), (by decide : 30 + 0 ≤ _)⟩)
           dsimp only [Pt.U, Pt.locs, Pt.cells, Pt.slots] at X146 l146 y146 z146 st146 hQ146
           subst l146 y146 z146
           obtain ⟨rfl, Nq146, eh146⟩ := hQ146
           have N146 := Fr.app N145 Nq146
           refine GoesW.step (B := T146.setTop (mkF m 432 #[.val (.int i0), .val (.int i1), .val (.int i2), .val (.int i3), .val (.int i4), .val (.int 2), .val (.ref b1), .val (.ref b99), .val (.ref nr126), .val (.int ej0), .val (.int lj0), .val (.int hj1), .val (.int mj)] [(.int 1)])) st146 ?_
           refine GoesW.step (fun _ k => pw_ifNo X146.here hx (hb hby at_432) ((if0 _ _).trans (feq (by decide)).1) _ (pw_iconst X146.here hx (v := (1 : Int32)) (hb hby at_435) rfl _ (pw_goto X146.here hx (pc' := 440) (hb hby at_436) (by decide) (by decide) _ k))) ?_
           exact GoesW.retN X146 hS126 (Nat.le_refl _) hx eh146 (t := .boolean) Bd.returns (by simp) hlk (hb hby at_440) (by decide) (by decide) (⟨rfl, N146⟩)
          refine GoesW.step (fun _ k => pw_iload X126.here hx (hb hby at_343) rfl _ (pw_iload X126.here hx (hb hby at_345) rfl _ k)) ?_
          by_cases hc347_146 : hj1 < lj0
          · refine GoesW.step (fun _ k => pw_icmpYes X126.here hx (pc' := 360) (hb hby at_347) (tlt hc347_146).1 (by decide) (by decide) _ (pw_iconst X126.here hx (v := (0 : Int32)) (hb hby at_360) rfl _ (pw_istore X126.here hx (l' := #[.val (.int i0), .val (.int i1), .val (.int i2), .val (.int i3), .val (.int i4), .val (.int 2), .val (.ref b1), .val (.ref b99), .val (.ref nr126), .val (.int ej0), .val (.int lj0), .val (.int hj1), .val (.int 0)]) (hb hby at_361) rfl _ k))) ?_
            exact J139 (0 : Int32) (by rw [if_pos hc347_146])
          · refine GoesW.step (fun _ k => pw_icmpNo X126.here hx (hb hby at_347) (flt hc347_146).1 _ (pw_iload X126.here hx (hb hby at_350) rfl _ (pw_iload X126.here hx (hb hby at_352) rfl _ (pw_isub X126.here hx (hb hby at_354) _ (pw_iconst X126.here hx (v := (1 : Int32)) (hb hby at_355) rfl _ (pw_iadd X126.here hx (hb hby at_356) _ k)))))) ?_
            refine GoesW.step (fun _ k => pw_goto X126.here hx (pc' := 361) (hb hby at_357) (by decide) (by decide) _ (pw_istore X126.here hx (l' := #[.val (.int i0), .val (.int i1), .val (.int i2), .val (.int i3), .val (.int i4), .val (.int 2), .val (.ref b1), .val (.ref b99), .val (.ref nr126), .val (.int ej0), .val (.int lj0), .val (.int hj1), .val (.int ((hj1 - lj0) + (1 : Int32)))]) (hb hby at_361) rfl _ k)) ?_
            exact J139 ((hj1 - lj0) + (1 : Int32)) (by rw [if_neg hc347_146])
         refine GoesW.step (fun _ k => pw_iconst X126.here hx (v := (1 : Int32)) (hb hby at_289) rfl _ (pw_iload X126.here hx (hb hby at_290) rfl _ k)) ?_
         by_cases hc292_147 : (1 : Int32) < ej0
         · refine GoesW.step (fun _ k => pw_icmpNo X126.here hx (hb hby at_292) (tlt hc292_147).2.1 _ (pw_aload X126.here hx (hb hby at_295) rfl rfl _ (pw_iconst X126.here hx (v := (1 : Int32)) (hb hby at_297) rfl _ k))) ?_
           have f149 := (f129.keep Kp126 nin0)
           obtain ⟨c150, Ar150, -, Sz150, Nn150, Hs150, -⟩ := id f149
           have hin150 : ¬ ((1 : Int32) < 0 ∨ c150.slots.size ≤ ((1 : Int32)).toNatClampNeg) := inb_of Sz150 ⟨by decide, by decide⟩
           refine GoesW.step (B := T126.setTop (mkF m 299 #[.val (.int i0), .val (.int i1), .val (.int i2), .val (.int i3), .val (.int i4), .val (.int 2), .val (.ref b1), .val (.ref b99), .val (.ref nr126), .val (.int ej0), .val (.int lj0), .val (.int hj0), .unset] [(.int r_7)])) (X126.caload hx (j := (1 : Int32)) (v := (.int r_7)) (by exact Ar150.1) (State.isArrayOf_alike hZ126.alike Ar150.2.1) Ar150.2.2 hin150 (Has.at Hs150 hin150 rfl) (g := (mkF m 298 #[.val (.int i0), .val (.int i1), .val (.int i2), .val (.int i3), .val (.int i4), .val (.int 2), .val (.ref b1), .val (.ref b99), .val (.ref nr126), .val (.int ej0), .val (.int lj0), .val (.int hj0), .unset] [(.int 1), (.ref b1)])) rfl rfl (hb hby at_298)) ?_
           refine GoesW.step (fun _ k => pw_bipush X126.here hx (v := (32 : Int32)) (hb hby at_299) rfl _ k) ?_
           by_cases hc301_150 : (32 : Int32) < r_7
           · refine GoesW.step (fun _ k => pw_icmpNo X126.here hx (hb hby at_301) (tlt hc301_150).2.2.2 _ (pw_iconst X126.here hx (v := (1 : Int32)) (hb hby at_304) rfl _ (pw_istore X126.here hx (l' := #[.val (.int i0), .val (.int i1), .val (.int i2), .val (.int i3), .val (.int i4), .val (.int 2), .val (.ref b1), .val (.ref b99), .val (.ref nr126), .val (.int ej0), .val (.int lj0), .val (.int 1), .unset]) (hb hby at_305) rfl _ k))) ?_
             exact J138 (1 : Int32) (by rw [own_lq, if_pos hc292_147, if_pos hc301_150])
           · refine GoesW.step (fun _ k => pw_icmpYes X126.here hx (pc' := 307) (hb hby at_301) (flt hc301_150).2.2.2 (by decide) (by decide) _ k) ?_
             exact J138 hj0 (by rw [own_lq, if_pos hc292_147, if_neg hc301_150])
         · refine GoesW.step (fun _ k => pw_icmpYes X126.here hx (pc' := 307) (hb hby at_292) (flt hc292_147).2.1 (by decide) (by decide) _ k) ?_
           exact J138 hj0 (by rw [own_lq, if_neg hc292_147])
        refine GoesW.step (fun _ k => pw_iconst X126.here hx (v := (0 : Int32)) (hb hby at_271) rfl _ (pw_iload X126.here hx (hb hby at_272) rfl _ k)) ?_
        by_cases hc274_151 : (0 : Int32) < ej0
        · refine GoesW.step (fun _ k => pw_icmpNo X126.here hx (hb hby at_274) (tlt hc274_151).2.1 _ (pw_aload X126.here hx (hb hby at_277) rfl rfl _ (pw_iconst X126.here hx (v := (0 : Int32)) (hb hby at_279) rfl _ k))) ?_
          have f153 := (f129.keep Kp126 nin0)
          obtain ⟨c154, Ar154, -, Sz154, Nn154, Hs154, -⟩ := id f153
          have hin154 : ¬ ((0 : Int32) < 0 ∨ c154.slots.size ≤ ((0 : Int32)).toNatClampNeg) := inb_of Sz154 ⟨by decide, by decide⟩
          refine GoesW.step (B := T126.setTop (mkF m 281 #[.val (.int i0), .val (.int i1), .val (.int i2), .val (.int i3), .val (.int i4), .val (.int 2), .val (.ref b1), .val (.ref b99), .val (.ref nr126), .val (.int ej0), .val (.int lj0), .val (.int (-1)), .unset] [(.int r_3)])) (X126.caload hx (j := (0 : Int32)) (v := (.int r_3)) (by exact Ar154.1) (State.isArrayOf_alike hZ126.alike Ar154.2.1) Ar154.2.2 hin154 (Has.at Hs154 hin154 rfl) (g := (mkF m 280 #[.val (.int i0), .val (.int i1), .val (.int i2), .val (.int i3), .val (.int i4), .val (.int 2), .val (.ref b1), .val (.ref b99), .val (.ref nr126), .val (.int ej0), .val (.int lj0), .val (.int (-1)), .unset] [(.int 0), (.ref b1)])) rfl rfl (hb hby at_280)) ?_
          refine GoesW.step (fun _ k => pw_bipush X126.here hx (v := (32 : Int32)) (hb hby at_281) rfl _ k) ?_
          by_cases hc283_154 : (32 : Int32) < r_3
          · refine GoesW.step (fun _ k => pw_icmpNo X126.here hx (hb hby at_283) (tlt hc283_154).2.2.2 _ (pw_iconst X126.here hx (v := (0 : Int32)) (hb hby at_286) rfl _ (pw_istore X126.here hx (l' := #[.val (.int i0), .val (.int i1), .val (.int i2), .val (.int i3), .val (.int i4), .val (.int 2), .val (.ref b1), .val (.ref b99), .val (.ref nr126), .val (.int ej0), .val (.int lj0), .val (.int 0), .unset]) (hb hby at_287) rfl _ k))) ?_
            exact J137 (0 : Int32) (by rw [own_lq, if_pos hc274_151, if_pos hc283_154])
          · refine GoesW.step (fun _ k => pw_icmpYes X126.here hx (pc' := 289) (hb hby at_283) (flt hc283_154).2.2.2 (by decide) (by decide) _ k) ?_
            exact J137 (-1 : Int32) (by rw [own_lq, if_pos hc274_151, if_neg hc283_154])
        · refine GoesW.step (fun _ k => pw_icmpYes X126.here hx (pc' := 289) (hb hby at_274) (flt hc274_151).2.1 (by decide) (by decide) _ k) ?_
          exact J137 (-1 : Int32) (by rw [own_lq, if_neg hc274_151])
       refine GoesW.step (fun _ k => pw_iconst X126.here hx (v := (0 : Int32)) (hb hby at_250) rfl _ (pw_iload X126.here hx (hb hby at_251) rfl _ k)) ?_
       by_cases hc253_155 : (0 : Int32) < ej0
       · refine GoesW.step (fun _ k => pw_icmpNo X126.here hx (hb hby at_253) (tlt hc253_155).2.1 _ (pw_aload X126.here hx (hb hby at_256) rfl rfl _ (pw_iconst X126.here hx (v := (0 : Int32)) (hb hby at_258) rfl _ k))) ?_
         have f157 := (f129.keep Kp126 nin0)
         obtain ⟨c158, Ar158, -, Sz158, Nn158, Hs158, -⟩ := id f157
         have hin158 : ¬ ((0 : Int32) < 0 ∨ c158.slots.size ≤ ((0 : Int32)).toNatClampNeg) := inb_of Sz158 ⟨by decide, by decide⟩
         refine GoesW.step (B := T126.setTop (mkF m 260 #[.val (.int i0), .val (.int i1), .val (.int i2), .val (.int i3), .val (.int i4), .val (.int 2), .val (.ref b1), .val (.ref b99), .val (.ref nr126), .val (.int ej0), .val (.int lj1), .unset, .unset] [(.int r_3)])) (X126.caload hx (j := (0 : Int32)) (v := (.int r_3)) (by exact Ar158.1) (State.isArrayOf_alike hZ126.alike Ar158.2.1) Ar158.2.2 hin158 (Has.at Hs158 hin158 rfl) (g := (mkF m 259 #[.val (.int i0), .val (.int i1), .val (.int i2), .val (.int i3), .val (.int i4), .val (.int 2), .val (.ref b1), .val (.ref b99), .val (.ref nr126), .val (.int ej0), .val (.int lj1), .unset, .unset] [(.int 0), (.ref b1)])) rfl rfl (hb hby at_259)) ?_
         refine GoesW.step (fun _ k => pw_bipush X126.here hx (v := (32 : Int32)) (hb hby at_260) rfl _ k) ?_
         by_cases hc262_158 : (32 : Int32) < r_3
         · refine GoesW.step (fun _ k => pw_icmpNo X126.here hx (hb hby at_262) (tlt hc262_158).2.2.2 _ (pw_iconst X126.here hx (v := (0 : Int32)) (hb hby at_265) rfl _ (pw_istore X126.here hx (l' := #[.val (.int i0), .val (.int i1), .val (.int i2), .val (.int i3), .val (.int i4), .val (.int 2), .val (.ref b1), .val (.ref b99), .val (.ref nr126), .val (.int ej0), .val (.int 0), .unset, .unset]) (hb hby at_266) rfl _ k))) ?_
           exact J136 (0 : Int32) (by rw [own_lq, if_pos hc253_155, if_pos hc262_158])
         · refine GoesW.step (fun _ k => pw_icmpYes X126.here hx (pc' := 268) (hb hby at_262) (flt hc262_158).2.2.2 (by decide) (by decide) _ k) ?_
           exact J136 lj1 (by rw [own_lq, if_pos hc253_155, if_neg hc262_158])
       · refine GoesW.step (fun _ k => pw_icmpYes X126.here hx (pc' := 268) (hb hby at_253) (flt hc253_155).2.1 (by decide) (by decide) _ k) ?_
         exact J136 lj1 (by rw [own_lq, if_neg hc253_155])
      refine GoesW.step (fun _ k => pw_iconst X126.here hx (v := (1 : Int32)) (hb hby at_232) rfl _ (pw_iload X126.here hx (hb hby at_233) rfl _ k)) ?_
      by_cases hc235_159 : (1 : Int32) < ej0
      · refine GoesW.step (fun _ k => pw_icmpNo X126.here hx (hb hby at_235) (tlt hc235_159).2.1 _ (pw_aload X126.here hx (hb hby at_238) rfl rfl _ (pw_iconst X126.here hx (v := (1 : Int32)) (hb hby at_240) rfl _ k))) ?_
        have f161 := (f129.keep Kp126 nin0)
        obtain ⟨c162, Ar162, -, Sz162, Nn162, Hs162, -⟩ := id f161
        have hin162 : ¬ ((1 : Int32) < 0 ∨ c162.slots.size ≤ ((1 : Int32)).toNatClampNeg) := inb_of Sz162 ⟨by decide, by decide⟩
        refine GoesW.step (B := T126.setTop (mkF m 242 #[.val (.int i0), .val (.int i1), .val (.int i2), .val (.int i3), .val (.int i4), .val (.int 2), .val (.ref b1), .val (.ref b99), .val (.ref nr126), .val (.int ej0), .val (.int ej0), .unset, .unset] [(.int r_7)])) (X126.caload hx (j := (1 : Int32)) (v := (.int r_7)) (by exact Ar162.1) (State.isArrayOf_alike hZ126.alike Ar162.2.1) Ar162.2.2 hin162 (Has.at Hs162 hin162 rfl) (g := (mkF m 241 #[.val (.int i0), .val (.int i1), .val (.int i2), .val (.int i3), .val (.int i4), .val (.int 2), .val (.ref b1), .val (.ref b99), .val (.ref nr126), .val (.int ej0), .val (.int ej0), .unset, .unset] [(.int 1), (.ref b1)])) rfl rfl (hb hby at_241)) ?_
        refine GoesW.step (fun _ k => pw_bipush X126.here hx (v := (32 : Int32)) (hb hby at_242) rfl _ k) ?_
        by_cases hc244_162 : (32 : Int32) < r_7
        · refine GoesW.step (fun _ k => pw_icmpNo X126.here hx (hb hby at_244) (tlt hc244_162).2.2.2 _ (pw_iconst X126.here hx (v := (1 : Int32)) (hb hby at_247) rfl _ (pw_istore X126.here hx (l' := #[.val (.int i0), .val (.int i1), .val (.int i2), .val (.int i3), .val (.int i4), .val (.int 2), .val (.ref b1), .val (.ref b99), .val (.ref nr126), .val (.int ej0), .val (.int 1), .unset, .unset]) (hb hby at_248) rfl _ k))) ?_
          exact J135 (1 : Int32) (by rw [own_lq, if_pos hc235_159, if_pos hc244_162])
        · refine GoesW.step (fun _ k => pw_icmpYes X126.here hx (pc' := 250) (hb hby at_244) (flt hc244_162).2.2.2 (by decide) (by decide) _ k) ?_
          exact J135 ej0 (by rw [own_lq, if_pos hc235_159, if_neg hc244_162])
      · refine GoesW.step (fun _ k => pw_icmpYes X126.here hx (pc' := 250) (hb hby at_235) (flt hc235_159).2.1 (by decide) (by decide) _ k) ?_
        exact J135 ej0 (by rw [own_lq, if_neg hc235_159])
     refine GoesW.step (fun _ k => pw_aload X126.here hx (hb hby at_180) rfl rfl _ (pw_iconst X126.here hx (v := (0 : Int32)) (hb hby at_182) rfl _ k)) ?_
     have f164 := (f129.keep Kp126 nin0)
     obtain ⟨c165, Ar165, -, Sz165, Nn165, Hs165, -⟩ := id f164
     have hin165 : ¬ ((0 : Int32) < 0 ∨ c165.slots.size ≤ ((0 : Int32)).toNatClampNeg) := inb_of Sz165 ⟨by decide, by decide⟩
     refine GoesW.step (B := T126.setTop (mkF m 184 #[.val (.int i0), .val (.int i1), .val (.int i2), .val (.int i3), .val (.int i4), .val (.int 2), .val (.ref b1), .val (.ref b99), .val (.ref nr126), .val (.int ej1), .unset, .unset, .unset] [(.int r_3)])) (X126.caload hx (j := (0 : Int32)) (v := (.int r_3)) (by exact Ar165.1) (State.isArrayOf_alike hZ126.alike Ar165.2.1) Ar165.2.2 hin165 (Has.at Hs165 hin165 rfl) (g := (mkF m 183 #[.val (.int i0), .val (.int i1), .val (.int i2), .val (.int i3), .val (.int i4), .val (.int 2), .val (.ref b1), .val (.ref b99), .val (.ref nr126), .val (.int ej1), .unset, .unset, .unset] [(.int 0), (.ref b1)])) rfl rfl (hb hby at_183)) ?_
     refine GoesW.step (fun _ k => pw_bipush X126.here hx (v := (59 : Int32)) (hb hby at_184) rfl _ k) ?_
     by_cases hc186_165 : r_3 = (59 : Int32)
     · refine GoesW.step (fun _ k => pw_icmpNo X126.here hx (hb hby at_186) (teq hc186_165).2 _ (pw_iconst X126.here hx (v := (0 : Int32)) (hb hby at_189) rfl _ (pw_istore X126.here hx (l' := #[.val (.int i0), .val (.int i1), .val (.int i2), .val (.int i3), .val (.int i4), .val (.int 2), .val (.ref b1), .val (.ref b99), .val (.ref nr126), .val (.int 0), .unset, .unset, .unset]) (hb hby at_190) rfl _ k))) ?_
       exact J134 (0 : Int32) (by rw [if_pos hc186_165])
     · refine GoesW.step (fun _ k => pw_icmpYes X126.here hx (pc' := 192) (hb hby at_186) (feq hc186_165).2 (by decide) (by decide) _ k) ?_
       exact J134 ej1 (by rw [if_neg hc186_165])
    refine GoesW.step (fun _ k => pw_aload X126.here hx (hb hby at_163) rfl rfl _ (pw_iconst X126.here hx (v := (1 : Int32)) (hb hby at_165) rfl _ k)) ?_
    have f167 := (f129.keep Kp126 nin0)
    obtain ⟨c168, Ar168, -, Sz168, Nn168, Hs168, -⟩ := id f167
    have hin168 : ¬ ((1 : Int32) < 0 ∨ c168.slots.size ≤ ((1 : Int32)).toNatClampNeg) := inb_of Sz168 ⟨by decide, by decide⟩
    refine GoesW.step (B := T126.setTop (mkF m 167 #[.val (.int i0), .val (.int i1), .val (.int i2), .val (.int i3), .val (.int i4), .val (.int 2), .val (.ref b1), .val (.ref b99), .val (.ref nr126), .val (.int 2), .unset, .unset, .unset] [(.int r_7)])) (X126.caload hx (j := (1 : Int32)) (v := (.int r_7)) (by exact Ar168.1) (State.isArrayOf_alike hZ126.alike Ar168.2.1) Ar168.2.2 hin168 (Has.at Hs168 hin168 rfl) (g := (mkF m 166 #[.val (.int i0), .val (.int i1), .val (.int i2), .val (.int i3), .val (.int i4), .val (.int 2), .val (.ref b1), .val (.ref b99), .val (.ref nr126), .val (.int 2), .unset, .unset, .unset] [(.int 1), (.ref b1)])) rfl rfl (hb hby at_166)) ?_
    refine GoesW.step (fun _ k => pw_bipush X126.here hx (v := (59 : Int32)) (hb hby at_167) rfl _ k) ?_
    by_cases hc169_168 : r_7 = (59 : Int32)
    · refine GoesW.step (fun _ k => pw_icmpNo X126.here hx (hb hby at_169) (teq hc169_168).2 _ (pw_iconst X126.here hx (v := (1 : Int32)) (hb hby at_172) rfl _ (pw_istore X126.here hx (l' := #[.val (.int i0), .val (.int i1), .val (.int i2), .val (.int i3), .val (.int i4), .val (.int 2), .val (.ref b1), .val (.ref b99), .val (.ref nr126), .val (.int 1), .unset, .unset, .unset]) (hb hby at_173) rfl _ k))) ?_
      exact J133 (1 : Int32) (by rw [if_pos hc169_168])
    · refine GoesW.step (fun _ k => pw_icmpYes X126.here hx (pc' := 175) (hb hby at_169) (feq hc169_168).2 (by decide) (by decide) _ k) ?_
      exact J133 (2 : Int32) (by rw [if_neg hc169_168])
  · refine GoesW.step (fun _ k => pw_iload X16.here hx (hb hby at_42) rfl _ k) ?_
    obtain ⟨T170, h170, k170, X170, e170, E170, A170, st170⟩ := newP (aty := .char) X16 hx hZ (own_w1 hw) e16 (g := (mkF m 44 #[.val (.int i0), .val (.int i1), .val (.int i2), .val (.int i3), .val (.int i4), .val (.int 3), .val (.ref b1), .unset, .unset, .unset, .unset, .unset, .unset] [(.int 3)])) rfl (hb hby at_44) rfl (by decide) (cap := 3) (by decide) (by decide) (by decide) (by decide)
    obtain ⟨b170, g170⟩ : ∃ z, z = h16.size := ⟨_, rfl⟩
    rw [← g170] at A170 st170
    have ne_b1_b170 : b1 ≠ b170 := Nat.ne_of_lt (Nat.lt_of_lt_of_le Vn16.lt (Nat.le_of_eq g170.symm))
    have g_b170 : n0 ≤ b170 := Nat.le_trans (own_z O_16) (Nat.le_of_eq g170.symm)
    have Sf_b170 := Safe.ext E170 CH18.1 (Safe.new (Nat.le_of_eq g170.symm))
    have Sf171 := Safe.ext E170 CH18.1 Sf17
    have CH172 := CH18.trans (CHr.ext E170 CH18.1)
    have O_170 := O_16.ext E170
    have V_b170 : Arv Z h170 b170 k170 .char (3 : Int32) [(.int 0), (.int 0), (.int 0)] (.int 0) := (Arv.new A170 (by decide)).pad (pad_rep [] (.int 0) 3)
    refine GoesW.step (B := T170.setTop (mkF m 46 #[.val (.int i0), .val (.int i1), .val (.int i2), .val (.int i3), .val (.int i4), .val (.int 3), .val (.ref b1), .unset, .unset, .unset, .unset, .unset, .unset] [(.ref b170)])) st170 ?_
    refine GoesW.step (fun _ k => pw_astore X170.here hx (l' := #[.val (.int i0), .val (.int i1), .val (.int i2), .val (.int i3), .val (.int i4), .val (.int 3), .val (.ref b1), .val (.ref b170), .unset, .unset, .unset, .unset, .unset]) (hb hby at_46) rfl rfl _ (pw_iload X170.here hx (hb hby at_48) rfl _ (pw_ifNo X170.here hx (hb hby at_50) ((if0 _ _).trans (tlt (by decide)).2.2.2) _ (pw_aload X170.here hx (hb hby at_53) rfl rfl _ (pw_iconst X170.here hx (v := (0 : Int32)) (hb hby at_55) rfl _ (pw_aload X170.here hx (hb hby at_56) rfl rfl _ k)))))) ?_
    refine GoesW.step (fun _ k => pw_iconst X170.here hx (v := (0 : Int32)) (hb hby at_58) rfl _ k) ?_
    have f173 := (Vn16.ext E170)
    obtain ⟨c174, Ar174, -, Sz174, Nn174, Hs174, -⟩ := id f173
    have hin174 : ¬ ((0 : Int32) < 0 ∨ c174.slots.size ≤ ((0 : Int32)).toNatClampNeg) := inb_of Sz174 ⟨by decide, by decide⟩
    refine GoesW.step (B := T170.setTop (mkF m 60 #[.val (.int i0), .val (.int i1), .val (.int i2), .val (.int i3), .val (.int i4), .val (.int 3), .val (.ref b1), .val (.ref b170), .unset, .unset, .unset, .unset, .unset] [(.int r_3), (.int 0), (.ref b170)])) (X170.caload hx (j := (0 : Int32)) (v := (.int r_3)) (by rw [e170]; exact Ar174.1) (State.isArrayOf_alike hZ.alike Ar174.2.1) Ar174.2.2 hin174 (Has.at Hs174 hin174 rfl) (g := (mkF m 59 #[.val (.int i0), .val (.int i1), .val (.int i2), .val (.int i3), .val (.int i4), .val (.int 3), .val (.ref b1), .val (.ref b170), .unset, .unset, .unset, .unset, .unset] [(.int 0), (.ref b1), (.int 0), (.ref b170)])) rfl rfl (hb hby at_59)) ?_
    obtain ⟨c175, Ar175, q175, Sz175, Nn175, Hs175, Gs175⟩ := id V_b170
    have hin175 : ¬ ((0 : Int32) < 0 ∨ c175.slots.size ≤ ((0 : Int32)).toNatClampNeg) := inb_of Sz175 ⟨by decide, by decide⟩
    obtain ⟨T175, h175, X175, e175, W175, st175⟩ := stC X170 hx hZ e170 Ar175 (j := (0 : Int32)) hin175 (g := (mkF m 60 #[.val (.int i0), .val (.int i1), .val (.int i2), .val (.int i3), .val (.int i4), .val (.int 3), .val (.ref b1), .val (.ref b170), .unset, .unset, .unset, .unset, .unset] [(.int r_3), (.int 0), (.ref b170)])) rfl rfl (hb hby at_60)
    have Sf176 := Safe.wr W175 Sf_b170 CH172.1 Sf171
    have Sf177 := Safe.wr W175 Sf_b170 CH172.1 Sf_b170
    have CH178 := CH172.trans (CHr.wr W175 Sf_b170 CH172.1)
    have V175 : Arv Z h175 b170 k170 .char (3 : Int32) [(.int (nar .char r_3)), (.int 0), (.int 0)] (.int 0) := Arv.set Ar175 q175 Sz175 Nn175 Hs175 Gs175 (fits_nar_char _) W175 0 rfl (Nat.le_of_ble_eq_true rfl)
    have Vn175 : Arv Z h175 b170 k170 .char (3 : Int32) [(.int r_3), (.int 0), (.int 0)] (.int 0) := by have q := V175; rw [own_nr hok_3] at q; exact q
    have N175 := Fr.snoc X175 N16 g_b170
    have O_175 := O_170.wr W175 g_b170
    refine GoesW.step (B := T175.setTop (mkF m 61 #[.val (.int i0), .val (.int i1), .val (.int i2), .val (.int i3), .val (.int i4), .val (.int 3), .val (.ref b1), .val (.ref b170), .unset, .unset, .unset, .unset, .unset] [])) st175 ?_
    refine GoesW.step (fun _ k => pw_iload X175.here hx (hb hby at_61) rfl _ (pw_iconst X175.here hx (v := (1 : Int32)) (hb hby at_63) rfl _ (pw_icmpNo X175.here hx (hb hby at_64) (tlt (by decide)).2.2.2 _ (pw_aload X175.here hx (hb hby at_67) rfl rfl _ (pw_iconst X175.here hx (v := (1 : Int32)) (hb hby at_69) rfl _ (pw_aload X175.here hx (hb hby at_70) rfl rfl _ k)))))) ?_
    refine GoesW.step (fun _ k => pw_iconst X175.here hx (v := (1 : Int32)) (hb hby at_72) rfl _ k) ?_
    have f179 := (f173.other W175 ne_b1_b170)
    obtain ⟨c180, Ar180, -, Sz180, Nn180, Hs180, -⟩ := id f179
    have hin180 : ¬ ((1 : Int32) < 0 ∨ c180.slots.size ≤ ((1 : Int32)).toNatClampNeg) := inb_of Sz180 ⟨by decide, by decide⟩
    refine GoesW.step (B := T175.setTop (mkF m 74 #[.val (.int i0), .val (.int i1), .val (.int i2), .val (.int i3), .val (.int i4), .val (.int 3), .val (.ref b1), .val (.ref b170), .unset, .unset, .unset, .unset, .unset] [(.int r_7), (.int 1), (.ref b170)])) (X175.caload hx (j := (1 : Int32)) (v := (.int r_7)) (by rw [e175]; exact Ar180.1) (State.isArrayOf_alike hZ.alike Ar180.2.1) Ar180.2.2 hin180 (Has.at Hs180 hin180 rfl) (g := (mkF m 73 #[.val (.int i0), .val (.int i1), .val (.int i2), .val (.int i3), .val (.int i4), .val (.int 3), .val (.ref b1), .val (.ref b170), .unset, .unset, .unset, .unset, .unset] [(.int 1), (.ref b1), (.int 1), (.ref b170)])) rfl rfl (hb hby at_73)) ?_
    obtain ⟨c181, Ar181, q181, Sz181, Nn181, Hs181, Gs181⟩ := id Vn175
    have hin181 : ¬ ((1 : Int32) < 0 ∨ c181.slots.size ≤ ((1 : Int32)).toNatClampNeg) := inb_of Sz181 ⟨by decide, by decide⟩
    obtain ⟨T181, h181, X181, e181, W181, st181⟩ := stC X175 hx hZ e175 Ar181 (j := (1 : Int32)) hin181 (g := (mkF m 74 #[.val (.int i0), .val (.int i1), .val (.int i2), .val (.int i3), .val (.int i4), .val (.int 3), .val (.ref b1), .val (.ref b170), .unset, .unset, .unset, .unset, .unset] [(.int r_7), (.int 1), (.ref b170)])) rfl rfl (hb hby at_74)
    have Sf182 := Safe.wr W181 Sf177 CH178.1 Sf176
    have Sf183 := Safe.wr W181 Sf177 CH178.1 Sf177
    have CH184 := CH178.trans (CHr.wr W181 Sf177 CH178.1)
    have V181 : Arv Z h181 b170 k170 .char (3 : Int32) [(.int r_3), (.int (nar .char r_7)), (.int 0)] (.int 0) := Arv.set Ar181 q181 Sz181 Nn181 Hs181 Gs181 (fits_nar_char _) W181 1 rfl (Nat.le_of_ble_eq_true rfl)
    have Vn181 : Arv Z h181 b170 k170 .char (3 : Int32) [(.int r_3), (.int r_7), (.int 0)] (.int 0) := by have q := V181; rw [own_nr hok_7] at q; exact q
    have N181 := Fr.snoc X181 N175 g_b170
    have O_181 := O_175.wr W181 g_b170
    refine GoesW.step (B := T181.setTop (mkF m 75 #[.val (.int i0), .val (.int i1), .val (.int i2), .val (.int i3), .val (.int i4), .val (.int 3), .val (.ref b1), .val (.ref b170), .unset, .unset, .unset, .unset, .unset] [])) st181 ?_
    refine GoesW.step (fun _ k => pw_iload X181.here hx (hb hby at_75) rfl _ (pw_iconst X181.here hx (v := (2 : Int32)) (hb hby at_77) rfl _ (pw_icmpNo X181.here hx (hb hby at_78) (tlt (by decide)).2.2.2 _ (pw_aload X181.here hx (hb hby at_81) rfl rfl _ (pw_iconst X181.here hx (v := (2 : Int32)) (hb hby at_83) rfl _ (pw_aload X181.here hx (hb hby at_84) rfl rfl _ k)))))) ?_
    refine GoesW.step (fun _ k => pw_iconst X181.here hx (v := (2 : Int32)) (hb hby at_86) rfl _ k) ?_
    have f185 := (f179.other W181 ne_b1_b170)
    obtain ⟨c186, Ar186, -, Sz186, Nn186, Hs186, -⟩ := id f185
    have hin186 : ¬ ((2 : Int32) < 0 ∨ c186.slots.size ≤ ((2 : Int32)).toNatClampNeg) := inb_of Sz186 ⟨by decide, by decide⟩
    refine GoesW.step (B := T181.setTop (mkF m 88 #[.val (.int i0), .val (.int i1), .val (.int i2), .val (.int i3), .val (.int i4), .val (.int 3), .val (.ref b1), .val (.ref b170), .unset, .unset, .unset, .unset, .unset] [(.int r_11), (.int 2), (.ref b170)])) (X181.caload hx (j := (2 : Int32)) (v := (.int r_11)) (by rw [e181]; exact Ar186.1) (State.isArrayOf_alike hZ.alike Ar186.2.1) Ar186.2.2 hin186 (Has.at Hs186 hin186 rfl) (g := (mkF m 87 #[.val (.int i0), .val (.int i1), .val (.int i2), .val (.int i3), .val (.int i4), .val (.int 3), .val (.ref b1), .val (.ref b170), .unset, .unset, .unset, .unset, .unset] [(.int 2), (.ref b1), (.int 2), (.ref b170)])) rfl rfl (hb hby at_87)) ?_
    obtain ⟨c187, Ar187, q187, Sz187, Nn187, Hs187, Gs187⟩ := id Vn181
    have hin187 : ¬ ((2 : Int32) < 0 ∨ c187.slots.size ≤ ((2 : Int32)).toNatClampNeg) := inb_of Sz187 ⟨by decide, by decide⟩
    obtain ⟨T187, h187, X187, e187, W187, st187⟩ := stC X181 hx hZ e181 Ar187 (j := (2 : Int32)) hin187 (g := (mkF m 88 #[.val (.int i0), .val (.int i1), .val (.int i2), .val (.int i3), .val (.int i4), .val (.int 3), .val (.ref b1), .val (.ref b170), .unset, .unset, .unset, .unset, .unset] [(.int r_11), (.int 2), (.ref b170)])) rfl rfl (hb hby at_88)
    have Sf188 := Safe.wr W187 Sf183 CH184.1 Sf182
    have Sf189 := Safe.wr W187 Sf183 CH184.1 Sf183
    have CH190 := CH184.trans (CHr.wr W187 Sf183 CH184.1)
    have V187 : Arv Z h187 b170 k170 .char (3 : Int32) [(.int r_3), (.int r_7), (.int (nar .char r_11))] (.int 0) := Arv.set Ar187 q187 Sz187 Nn187 Hs187 Gs187 (fits_nar_char _) W187 2 rfl (Nat.le_of_ble_eq_true rfl)
    have Vn187 : Arv Z h187 b170 k170 .char (3 : Int32) [(.int r_3), (.int r_7), (.int r_11)] (.int 0) := by have q := V187; rw [own_nr hok_11] at q; exact q
    have N187 := Fr.snoc X187 N181 g_b170
    have O_187 := O_181.wr W187 g_b170
    refine GoesW.step (B := T187.setTop (mkF m 89 #[.val (.int i0), .val (.int i1), .val (.int i2), .val (.int i3), .val (.int i4), .val (.int 3), .val (.ref b1), .val (.ref b170), .unset, .unset, .unset, .unset, .unset] [])) st187 ?_
    refine GoesW.step (fun _ k => pw_iload X187.here hx (hb hby at_89) rfl _ (pw_iconst X187.here hx (v := (3 : Int32)) (hb hby at_91) rfl _ (pw_icmpYes X187.here hx (pc' := 103) (hb hby at_92) (flt (by decide)).2.2.2 (by decide) (by decide) _ k))) ?_
    obtain ⟨T191, h191, X191, e191, E191, A191, D191, -, st191⟩ := newO X187 hx hZ hown (own_w6 hw) (own_w7 hw) (own_w8 hw) e187 (g := (mkF m 103 #[.val (.int i0), .val (.int i1), .val (.int i2), .val (.int i3), .val (.int i4), .val (.int 3), .val (.ref b1), .val (.ref b170), .unset, .unset, .unset, .unset, .unset] [])) rfl (hb hby at_103) (by decide) (by decide)
    obtain ⟨b191, g191⟩ : ∃ z, z = h187.size := ⟨_, rfl⟩
    rw [← g191] at A191 D191 st191
    have f192 := (f185.other W187 ne_b1_b170)
    have ne_b1_b191 : b1 ≠ b191 := Nat.ne_of_lt (Nat.lt_of_lt_of_le f192.lt (Nat.le_of_eq g191.symm))
    have ne_b170_b191 : b170 ≠ b191 := Nat.ne_of_lt (Nat.lt_of_lt_of_le Vn187.lt (Nat.le_of_eq g191.symm))
    have g_b191 : n0 ≤ b191 := Nat.le_trans (own_z O_187) (Nat.le_of_eq g191.symm)
    have Sf_b191 := Safe.ext E191 CH190.1 (Safe.new (Nat.le_of_eq g191.symm))
    have Sf193 := Safe.ext E191 CH190.1 Sf188
    have Sf194 := Safe.ext E191 CH190.1 Sf189
    have CH195 := CH190.trans (CHr.ext E191 CH190.1)
    have O_191 := O_187.ext E191
    have F191_value : Fld Z h191 b191 "java/lang/String" "value" "[B" .null := D191 (Or.inr (own_w21 hw)) (ty := (.array .byte)) (by decide)
    have F191_coder : Fld Z h191 b191 "java/lang/String" "coder" "B" (.int 0) := D191 (Or.inr (own_w22 hw)) (ty := .byte) (by decide)
    refine GoesW.step (B := T191.setTop (mkF m 106 #[.val (.int i0), .val (.int i1), .val (.int i2), .val (.int i3), .val (.int i4), .val (.int 3), .val (.ref b1), .val (.ref b170), .unset, .unset, .unset, .unset, .unset] [(.ref b191)])) st191 ?_
    refine GoesW.step (fun _ k => pw_dup X191.here hx (hb hby at_106) rfl _ (pw_aload X191.here hx (hb hby at_107) rfl rfl _ k)) ?_
    have f197 := (Vn187.ext E191)
    have f198 := S_COMPACT_STRINGS.ext O_191.2
    obtain ⟨_, _, ⟨T196, L196, k196, n196⟩, -, X196, ⟨Lc196, hQ196, l196, y196, z196⟩, st196⟩ := X191.specialBack hx (y := (⟨"java/lang/String", "<init>", "([C)V"⟩ : MethodName)) rfl hown (mvT hZ (own_w9 hw)) (mvT hZ (own_w10 hw)) (mvT hZ (own_w11 hw)) (by decide) (backOf (W := 1) (rmSI_3 l Z a0 hw [] b191 b170 k170 cs r_3 r_7 r_11 h191 n0 O_191 A191 g_b191 F191_value F191_coder f197 f198 hcs hok_3 hok_7 hok_11) hZ (own_w11 hw) (own_w8 hw) (by decide) (by decide)) (g := (mkF m 109 #[.val (.int i0), .val (.int i1), .val (.int i2), .val (.int i3), .val (.int i4), .val (.int 3), .val (.ref b1), .val (.ref b170), .unset, .unset, .unset, .unset, .unset] [(.ref b170), (.ref b191), (.ref b191)])) rfl (by rw [hml]; rfl) (Steps.refl _) (a := b191) (argsL := [(.ref b170)]) (rest := [(.ref b191)]) (lenOf pd_23 rfl) rfl (by show 2 * 0 + _ ≤ _; exact Nat.le_of_eq rfl) (hb hby at_109) (fun _ _ => ⟨rfl, e191, (by decide : 3 + 1 ≤ _), (by decide : 11 + 3 ≤ _)⟩)
    dsimp only [Pt.U, Pt.locs, Pt.cells, Pt.slots] at X196 l196 y196 z196 st196 hQ196
    subst l196 y196 z196
    obtain ⟨rfl, Nq196, Kp196, Ex196, sv196, sk196, Fsv196, Fsc196, Vsv196⟩ := hQ196
    have Sf199 := Safe.keep Kp196 (sfS Sf_b191 sf0) CH195.1 Sf193
    have Sf200 := Safe.keep Kp196 (sfS Sf_b191 sf0) CH195.1 Sf194
    have Sf201 := Safe.keep Kp196 (sfS Sf_b191 sf0) CH195.1 Sf_b191
    have CH202 := CH195.trans (CHr.keep Kp196 (sfS Sf_b191 sf0) CH195.1)
    have O_196 := O_191.keep Kp196 (allS g_b191 all0)
    have N196 := Fr.app N187 Nq196
    refine GoesW.via (B := T196.setTop (mkF m 112 #[.val (.int i0), .val (.int i1), .val (.int i2), .val (.int i3), .val (.int i4), .val (.int 3), .val (.ref b1), .val (.ref b170), .unset, .unset, .unset, .unset, .unset] [(.ref b191)])) st196 ?_
    have f204 := S_COMPACT_STRINGS.ext O_196.2
    obtain ⟨_, vw203, ⟨T203, L203, k203, n203⟩, -, Xr203, S2203, sz203, ⟨Lc203, hQ203, l203, y203, z203, Hc203⟩, st203⟩ := callSS X196 hx (y := (⟨"com/example/partwright/partwright/reader/HeaderValue", "typeOf", "(Ljava/lang/String;)Ljava/lang/String;"⟩ : MethodName)) hown (mvT hZ (own_w27 hw)) (mvT hZ (own_w28 hw)) (mvT hZ (own_w29 hw)) (mvT hZ (own_w30 hw)) (by decide) (backOfSH (W := 0) (rmTY l Z a0 hw [] b191 sv196 sk196 (3 : Int32) [(own_b r_3), (own_b r_7), (own_b r_11)] cs fm T196.heap n0 O_196 FS Ex196 Fsc196 Fsv196 Vsv196 rfl (by decide)) hZ (own_w30 hw) (own_w29 hw) (by decide) (by decide) (own_EW hw) CH202.1) (g := (mkF m 112 #[.val (.int i0), .val (.int i1), .val (.int i2), .val (.int i3), .val (.int i4), .val (.int 3), .val (.ref b1), .val (.ref b170), .unset, .unset, .unset, .unset, .unset] [(.ref b191)])) rfl (by rw [hml]; rfl) (argsL := [(.ref b191)]) (rest := []) (lenOf pd_24 rfl) rfl (by show 2 * 0 + _ ≤ _; exact Nat.le_of_eq rfl) (hb hby at_112) (fun _ _ => ⟨rfl, rfl, (by decide : 4 + 4 ≤ _), (by decide : 14 + 18 ≤ _)⟩)
    dsimp only [Pt.U, Pt.locs, Pt.cells, Pt.slots] at Xr203 S2203 sz203 l203 y203 z203 st203 hQ203 Hc203
    subst l203 y203 z203
    obtain ⟨X203, hS203, hZ203, hown203⟩ := rebS hS0 (by exact (Nat.le_trans (Nat.le_trans (Nat.le_trans (Nat.le_trans (Nat.le_trans (Nat.le_trans (Nat.le_trans (Nat.le_trans (Nat.le_trans (Nat.le_trans (Nat.le_trans (Nat.le_refl _) E1.1) (Nat.le_of_eq W4.size.symm)) (Nat.le_of_eq W8.size.symm)) (Nat.le_of_eq W12.size.symm)) (Nat.le_of_eq W16.size.symm)) E170.1) (Nat.le_of_eq W175.size.symm)) (Nat.le_of_eq W181.size.symm)) (Nat.le_of_eq W187.size.symm)) E191.1) Kp196.1)) Xr203 S2203 sz203 hZ hown
    have CHc203 := CH202.trans Hc203
    obtain ⟨nr203, nv203, nk203, nm203, rfl, Nq203, Kp203, hnm203, Er203, Fv203, Fc203, Vr203⟩ := hQ203
    have f206 := ((f192.ext E191).keep Kp196 (ninS ne_b1_b191 nin0))
    have Sf205 := CHr.safe Hc203 f206.lt Sf199
    have f208 := (f197.keep Kp196 (ninS ne_b170_b191 nin0))
    have Sf207 := CHr.safe Hc203 f208.lt Sf200
    have Sf209 := CHr.safe Hc203 Ex196.lt Sf201
    have O_203 := O_196.keep Kp203 all0
    have N203 := Fr.app N196 Nq203
    refine GoesW.via (B := T203.setTop (mkF m 115 #[.val (.int i0), .val (.int i1), .val (.int i2), .val (.int i3), .val (.int i4), .val (.int 3), .val (.ref b1), .val (.ref b170), .unset, .unset, .unset, .unset, .unset] [(.ref nr203)])) st203 ?_
    refine GoesW.step (fun _ k => pw_astore X203.here hx (l' := #[.val (.int i0), .val (.int i1), .val (.int i2), .val (.int i3), .val (.int i4), .val (.int 3), .val (.ref b1), .val (.ref b170), .val (.ref nr203), .unset, .unset, .unset, .unset]) (hb hby at_115) rfl rfl _ (pw_iload X203.here hx (hb hby at_117) rfl _ (pw_istore X203.here hx (l' := #[.val (.int i0), .val (.int i1), .val (.int i2), .val (.int i3), .val (.int i4), .val (.int 3), .val (.ref b1), .val (.ref b170), .val (.ref nr203), .val (.int 3), .unset, .unset, .unset]) (hb hby at_119) rfl _ (pw_iload X203.here hx (hb hby at_121) rfl _ (pw_iconst X203.here hx (v := (3 : Int32)) (hb hby at_123) rfl _ (pw_icmpYes X203.here hx (pc' := 139) (hb hby at_124) (flt (by decide)).2.2.2 (by decide) (by decide) _ k)))))) ?_
    refine GoesW.step (fun _ k => pw_iload X203.here hx (hb hby at_139) rfl _ (pw_iconst X203.here hx (v := (2 : Int32)) (hb hby at_141) rfl _ (pw_icmpNo X203.here hx (hb hby at_142) (tlt (by decide)).2.2.2 _ k))) ?_
    have J210 : ∀ (ej2 : Int32), ej2 = (if r_11 = (59 : Int32) then (2 : Int32) else (3 : Int32)) → GoesW p e below s (Q0 Z i0 i1 i2 i3 i4 cs fm h0 n0) room_1.cells room_1.slots (T203.setTop (mkF m 157 #[.val (.int i0), .val (.int i1), .val (.int i2), .val (.int i3), .val (.int i4), .val (.int 3), .val (.ref b1), .val (.ref b170), .val (.ref nr203), .val (.int ej2), .unset, .unset, .unset] [])) := by
     intro ej2 hej2
     refine GoesW.step (fun _ k => pw_iload X203.here hx (hb hby at_157) rfl _ (pw_iconst X203.here hx (v := (1 : Int32)) (hb hby at_159) rfl _ (pw_icmpNo X203.here hx (hb hby at_160) (tlt (by decide)).2.2.2 _ k))) ?_
     have J211 : ∀ (ej1 : Int32), ej1 = (if r_7 = (59 : Int32) then (1 : Int32) else ej2) → GoesW p e below s (Q0 Z i0 i1 i2 i3 i4 cs fm h0 n0) room_1.cells room_1.slots (T203.setTop (mkF m 175 #[.val (.int i0), .val (.int i1), .val (.int i2), .val (.int i3), .val (.int i4), .val (.int 3), .val (.ref b1), .val (.ref b170), .val (.ref nr203), .val (.int ej1), .unset, .unset, .unset] [])) := by
      intro ej1 hej1
      refine GoesW.step (fun _ k => pw_iload X203.here hx (hb hby at_175) rfl _ (pw_ifNo X203.here hx (hb hby at_177) ((if0 _ _).trans (tlt (by decide)).2.2.2) _ k)) ?_
      have J212 : ∀ (ej0 : Int32), ej0 = (if r_3 = (59 : Int32) then (0 : Int32) else ej1) → GoesW p e below s (Q0 Z i0 i1 i2 i3 i4 cs fm h0 n0) room_1.cells room_1.slots (T203.setTop (mkF m 192 #[.val (.int i0), .val (.int i1), .val (.int i2), .val (.int i3), .val (.int i4), .val (.int 3), .val (.ref b1), .val (.ref b170), .val (.ref nr203), .val (.int ej0), .unset, .unset, .unset] [])) := by
       intro ej0 hej0
       have hE : ej0 = own_e3 r_3 r_7 r_11 := by rw [hej0, hej1, hej2]; rfl
       obtain ⟨g1, g2, g3, g4, g5, g6, g7⟩ := own_fin3 (c0 := r_3) (c1 := r_7) (c2 := r_11) (c3 := r_15) hok_3 hok_7 hok_11
       rw [← hE] at g1 g2 g3 g4 g5 g6 g7
       rw [← hnm203] at g1
       have heb : ej0.toInt ≤ 3 := by rw [hE]; exact own_eb3 r_3 r_7 r_11
       refine GoesW.step (fun _ k => pw_iload X203.here hx (hb hby at_192) rfl _ (pw_istore X203.here hx (l' := #[.val (.int i0), .val (.int i1), .val (.int i2), .val (.int i3), .val (.int i4), .val (.int 3), .val (.ref b1), .val (.ref b170), .val (.ref nr203), .val (.int ej0), .val (.int ej0), .unset, .unset]) (hb hby at_194) rfl _ (pw_iconst X203.here hx (v := (3 : Int32)) (hb hby at_196) rfl _ (pw_iload X203.here hx (hb hby at_197) rfl _ (pw_icmpYes X203.here hx (pc' := 214) (hb hby at_199) (flt (own_nlt (by rw [show (3 : Int32).toInt = 3 from by decide]; omega))).2.1 (by decide) (by decide) _ k))))) ?_
       have J213 : ∀ (lj2 : Int32), lj2 = own_lq (2 : Int32) ej0 r_11 ej0 → GoesW p e below s (Q0 Z i0 i1 i2 i3 i4 cs fm h0 n0) room_1.cells room_1.slots (T203.setTop (mkF m 232 #[.val (.int i0), .val (.int i1), .val (.int i2), .val (.int i3), .val (.int i4), .val (.int 3), .val (.ref b1), .val (.ref b170), .val (.ref nr203), .val (.int ej0), .val (.int lj2), .unset, .unset] [])) := by
        intro lj2 hlj2
        have J214 : ∀ (lj1 : Int32), lj1 = own_lq (1 : Int32) ej0 r_7 lj2 → GoesW p e below s (Q0 Z i0 i1 i2 i3 i4 cs fm h0 n0) room_1.cells room_1.slots (T203.setTop (mkF m 250 #[.val (.int i0), .val (.int i1), .val (.int i2), .val (.int i3), .val (.int i4), .val (.int 3), .val (.ref b1), .val (.ref b170), .val (.ref nr203), .val (.int ej0), .val (.int lj1), .unset, .unset] [])) := by
         intro lj1 hlj1
         have J215 : ∀ (lj0 : Int32), lj0 = own_lq (0 : Int32) ej0 r_3 lj1 → GoesW p e below s (Q0 Z i0 i1 i2 i3 i4 cs fm h0 n0) room_1.cells room_1.slots (T203.setTop (mkF m 268 #[.val (.int i0), .val (.int i1), .val (.int i2), .val (.int i3), .val (.int i4), .val (.int 3), .val (.ref b1), .val (.ref b170), .val (.ref nr203), .val (.int ej0), .val (.int lj0), .unset, .unset] [])) := by
          intro lj0 hlj0
          refine GoesW.step (fun _ k => pw_iconst X203.here hx (v := (-1 : Int32)) (hb hby at_268) rfl _ (pw_istore X203.here hx (l' := #[.val (.int i0), .val (.int i1), .val (.int i2), .val (.int i3), .val (.int i4), .val (.int 3), .val (.ref b1), .val (.ref b170), .val (.ref nr203), .val (.int ej0), .val (.int lj0), .val (.int (-1)), .unset]) (hb hby at_269) rfl _ k)) ?_
          have J216 : ∀ (hj0 : Int32), hj0 = own_lq (0 : Int32) ej0 r_3 (-1 : Int32) → GoesW p e below s (Q0 Z i0 i1 i2 i3 i4 cs fm h0 n0) room_1.cells room_1.slots (T203.setTop (mkF m 289 #[.val (.int i0), .val (.int i1), .val (.int i2), .val (.int i3), .val (.int i4), .val (.int 3), .val (.ref b1), .val (.ref b170), .val (.ref nr203), .val (.int ej0), .val (.int lj0), .val (.int hj0), .unset] [])) := by
           intro hj0 hhj0
           have J217 : ∀ (hj1 : Int32), hj1 = own_lq (1 : Int32) ej0 r_7 hj0 → GoesW p e below s (Q0 Z i0 i1 i2 i3 i4 cs fm h0 n0) room_1.cells room_1.slots (T203.setTop (mkF m 307 #[.val (.int i0), .val (.int i1), .val (.int i2), .val (.int i3), .val (.int i4), .val (.int 3), .val (.ref b1), .val (.ref b170), .val (.ref nr203), .val (.int ej0), .val (.int lj0), .val (.int hj1), .unset] [])) := by
            intro hj1 hhj1
            have J218 : ∀ (hj2 : Int32), hj2 = own_lq (2 : Int32) ej0 r_11 hj1 → GoesW p e below s (Q0 Z i0 i1 i2 i3 i4 cs fm h0 n0) room_1.cells room_1.slots (T203.setTop (mkF m 325 #[.val (.int i0), .val (.int i1), .val (.int i2), .val (.int i3), .val (.int i4), .val (.int 3), .val (.ref b1), .val (.ref b170), .val (.ref nr203), .val (.int ej0), .val (.int lj0), .val (.int hj2), .unset] [])) := by
             intro hj2 hhj2
             refine GoesW.step (fun _ k => pw_iconst X203.here hx (v := (3 : Int32)) (hb hby at_325) rfl _ (pw_iload X203.here hx (hb hby at_326) rfl _ (pw_icmpYes X203.here hx (pc' := 343) (hb hby at_328) (flt (own_nlt (by rw [show (3 : Int32).toInt = 3 from by decide]; omega))).2.1 (by decide) (by decide) _ k))) ?_
             have J219 : ∀ (mj : Int32), mj = (if hj2 < lj0 then (0 : Int32) else (hj2 - lj0) + (1 : Int32)) → GoesW p e below s (Q0 Z i0 i1 i2 i3 i4 cs fm h0 n0) room_1.cells room_1.slots (T203.setTop (mkF m 363 #[.val (.int i0), .val (.int i1), .val (.int i2), .val (.int i3), .val (.int i4), .val (.int 3), .val (.ref b1), .val (.ref b170), .val (.ref nr203), .val (.int ej0), .val (.int lj0), .val (.int hj2), .val (.int mj)] [])) := by
              intro mj hmj
              rw [← hlj2] at g1 g2 g3 g4 g5
              rw [← hlj1] at g1 g2 g3 g4 g5
              rw [← hlj0] at g1 g2 g3 g4 g5
              rw [← hhj0] at g1 g4 g5
              rw [← hhj1] at g1 g4 g5
              rw [← hhj2] at g1 g4 g5
              rw [← hmj] at g1 g4 g5
              refine GoesW.step (fun _ k => pw_aload X203.here hx (hb hby at_363) rfl rfl _ k) ?_
              have f221 := S_COMPACT_STRINGS.ext O_203.2
              obtain ⟨cq220, kq220, qa220, qb220, qc220⟩ := isOf hZ203 rfl Er203
              obtain ⟨_, _, ⟨T220, L220, k220, n220⟩, -, X220, ⟨Lc220, hQ220, l220, y220, z220⟩, st220⟩ := X203.virtualBack hx (y := (⟨"java/lang/String", "length", "()I"⟩ : MethodName)) (z := (⟨"java/lang/String", "length", "()I"⟩ : MethodName)) hown203 (mvT hZ203 (own_w79 hw)) (mvT hZ203 (own_w48 hw)) (notFace_of_selects (args := #[]) (mvT hZ203 (own_w50 hw))) (mvT hZ203 (own_w50 hw)) (mvT hZ203 (own_w49 hw)) (by decide) (backOf (W := 0) (rm9 l Z a0 hw [] nr203 nv203 nk203 nm203 (own_sub (own_ys [(own_b r_3), (own_b r_7), (own_b r_11)]) (own_lo (own_ys [(own_b r_3), (own_b r_7), (own_b r_11)])) nm203) cs T203.heap n0 O_203 f221 hcs Er203 Fc203 Fv203 Vr203) hZ203 (own_w51 hw) (own_w8 hw) (by decide) (by decide)) qa220 qc220 (g := (mkF m 365 #[.val (.int i0), .val (.int i1), .val (.int i2), .val (.int i3), .val (.int i4), .val (.int 3), .val (.ref b1), .val (.ref b170), .val (.ref nr203), .val (.int ej0), .val (.int lj0), .val (.int hj2), .val (.int mj)] [(.ref nr203)])) rfl (by rw [hml]; rfl) (Steps.refl _) (argsL := []) (rest := []) (lenOf pd_13 rfl) rfl (by show 2 * 0 + _ ≤ _; exact Nat.le_of_eq rfl) (hb hby at_365) (fun _ _ => ⟨rfl, rfl, (by decide : 8 + 0 ≤ _), (by decide : 32 + 0 ≤ _)⟩)
              dsimp only [Pt.U, Pt.locs, Pt.cells, Pt.slots] at X220 l220 y220 z220 st220 hQ220
              subst l220 y220 z220
              obtain ⟨rfl, Nq220, eh220⟩ := hQ220
              have N220 := Fr.app N203 Nq220
              refine GoesW.via (B := T220.setTop (mkF m 368 #[.val (.int i0), .val (.int i1), .val (.int i2), .val (.int i3), .val (.int i4), .val (.int 3), .val (.ref b1), .val (.ref b170), .val (.ref nr203), .val (.int ej0), .val (.int lj0), .val (.int hj2), .val (.int mj)] [(.int nm203)])) st220 ?_
              refine GoesW.step (fun _ k => pw_iload X220.here hx (hb hby at_368) rfl _ (pw_icmpYes X220.here hx (pc' := 375) (hb hby at_370) (teq g1).1 (by decide) (by decide) _ (pw_aload X220.here hx (hb hby at_375) rfl rfl _ (pw_aload X220.here hx (hb hby at_377) rfl rfl _ (pw_iload X220.here hx (hb hby at_379) rfl _ (pw_iload X220.here hx (hb hby at_381) rfl _ k)))))) ?_
              refine GoesW.step (fun _ k => pw_iconst X220.here hx (v := (0 : Int32)) (hb hby at_383) rfl _ k) ?_
              have f223 := (f206.keep Kp203 nin0)
              obtain ⟨_, _, ⟨T222, L222, k222, n222⟩, -, X222, ⟨Lc222, hQ222, l222, y222, z222⟩, st222⟩ := Jvm.LawKit.callS X220 hx (y := (⟨"com/example/partwright/partwright/reader/HeaderValueTypeOfPinLaw", "same", "(Ljava/lang/String;[CIII)Z"⟩ : MethodName)) hown203 (mvT hZ203 (own_w80 hw)) (mvT hZ203 (own_w81 hw)) (mvT hZ203 (own_w4 hw)) (mvT hZ203 (own_w82 hw)) (by decide) (backOf (W := 0) (rmAt l Z a0 hw [] nr203 nv203 nk203 nm203 (own_sub (own_ys [(own_b r_3), (own_b r_7), (own_b r_11)]) (own_lo (own_ys [(own_b r_3), (own_b r_7), (own_b r_11)])) nm203) b1 k1 r_3 r_7 r_11 r_15 (0 : Int32) mj lj0 cs fm T203.heap n0 O_203 FS Er203 Fc203 Fv203 Vr203 f223 (own_hatq g1 g2 g3 g4 g5 g6 g7 (by decide))) hZ203 (own_w82 hw) (own_w4 hw) (by decide) (by decide)) (g := (mkF m 384 #[.val (.int i0), .val (.int i1), .val (.int i2), .val (.int i3), .val (.int i4), .val (.int 3), .val (.ref b1), .val (.ref b170), .val (.ref nr203), .val (.int ej0), .val (.int lj0), .val (.int hj2), .val (.int mj)] [(.int 0), (.int mj), (.int lj0), (.ref b1), (.ref nr203)])) rfl (by rw [hml]; rfl) (argsL := [(.ref nr203), (.ref b1), (.int lj0), (.int mj), (.int 0)]) (rest := []) (lenOf pd_25 rfl) rfl (by show 2 * 0 + _ ≤ _; exact Nat.le_of_eq rfl) (hb hby at_384) (fun _ _ => ⟨rfl, eh220, (by decide : 8 + 0 ≤ _), (by decide : 32 + 0 ≤ _)⟩)
              dsimp only [Pt.U, Pt.locs, Pt.cells, Pt.slots] at X222 l222 y222 z222 st222 hQ222
              subst l222 y222 z222
              obtain ⟨rfl, Nq222, eh222⟩ := hQ222
              have N222 := Fr.app N220 Nq222
              refine GoesW.step (B := T222.setTop (mkF m 387 #[.val (.int i0), .val (.int i1), .val (.int i2), .val (.int i3), .val (.int i4), .val (.int 3), .val (.ref b1), .val (.ref b170), .val (.ref nr203), .val (.int ej0), .val (.int lj0), .val (.int hj2), .val (.int mj)] [(.int 1)])) st222 ?_
              refine GoesW.step (fun _ k => pw_ifNo X222.here hx (hb hby at_387) ((if0 _ _).trans (feq (by decide)).1) _ (pw_aload X222.here hx (hb hby at_390) rfl rfl _ (pw_aload X222.here hx (hb hby at_392) rfl rfl _ (pw_iload X222.here hx (hb hby at_394) rfl _ (pw_iload X222.here hx (hb hby at_396) rfl _ (pw_iconst X222.here hx (v := (1 : Int32)) (hb hby at_398) rfl _ k)))))) ?_
              obtain ⟨_, _, ⟨T224, L224, k224, n224⟩, -, X224, ⟨Lc224, hQ224, l224, y224, z224⟩, st224⟩ := Jvm.LawKit.callS X222 hx (y := (⟨"com/example/partwright/partwright/reader/HeaderValueTypeOfPinLaw", "same", "(Ljava/lang/String;[CIII)Z"⟩ : MethodName)) hown203 (mvT hZ203 (own_w80 hw)) (mvT hZ203 (own_w81 hw)) (mvT hZ203 (own_w4 hw)) (mvT hZ203 (own_w82 hw)) (by decide) (backOf (W := 0) (rmAt l Z a0 hw [] nr203 nv203 nk203 nm203 (own_sub (own_ys [(own_b r_3), (own_b r_7), (own_b r_11)]) (own_lo (own_ys [(own_b r_3), (own_b r_7), (own_b r_11)])) nm203) b1 k1 r_3 r_7 r_11 r_15 (1 : Int32) mj lj0 cs fm T203.heap n0 O_203 FS Er203 Fc203 Fv203 Vr203 f223 (own_hatq g1 g2 g3 g4 g5 g6 g7 (by decide))) hZ203 (own_w82 hw) (own_w4 hw) (by decide) (by decide)) (g := (mkF m 399 #[.val (.int i0), .val (.int i1), .val (.int i2), .val (.int i3), .val (.int i4), .val (.int 3), .val (.ref b1), .val (.ref b170), .val (.ref nr203), .val (.int ej0), .val (.int lj0), .val (.int hj2), .val (.int mj)] [(.int 1), (.int mj), (.int lj0), (.ref b1), (.ref nr203)])) rfl (by rw [hml]; rfl) (argsL := [(.ref nr203), (.ref b1), (.int lj0), (.int mj), (.int 1)]) (rest := []) (lenOf pd_25 rfl) rfl (by show 2 * 0 + _ ≤ _; exact Nat.le_of_eq rfl) (hb hby at_399) (fun _ _ => ⟨rfl, eh222, (by decide : 8 + 0 ≤ _), (by decide : 32 + 0 ≤ _)⟩)
              dsimp only [Pt.U, Pt.locs, Pt.cells, Pt.slots] at X224 l224 y224 z224 st224 hQ224
              subst l224 y224 z224
              obtain ⟨rfl, Nq224, eh224⟩ := hQ224
              have N224 := Fr.app N222 Nq224
              refine GoesW.step (B := T224.setTop (mkF m 402 #[.val (.int i0), .val (.int i1), .val (.int i2), .val (.int i3), .val (.int i4), .val (.int 3), .val (.ref b1), .val (.ref b170), .val (.ref nr203), .val (.int ej0), .val (.int lj0), .val (.int hj2), .val (.int mj)] [(.int 1)])) st224 ?_
              refine GoesW.step (fun _ k => pw_ifNo X224.here hx (hb hby at_402) ((if0 _ _).trans (feq (by decide)).1) _ (pw_aload X224.here hx (hb hby at_405) rfl rfl _ (pw_aload X224.here hx (hb hby at_407) rfl rfl _ (pw_iload X224.here hx (hb hby at_409) rfl _ (pw_iload X224.here hx (hb hby at_411) rfl _ (pw_iconst X224.here hx (v := (2 : Int32)) (hb hby at_413) rfl _ k)))))) ?_
              obtain ⟨_, _, ⟨T225, L225, k225, n225⟩, -, X225, ⟨Lc225, hQ225, l225, y225, z225⟩, st225⟩ := Jvm.LawKit.callS X224 hx (y := (⟨"com/example/partwright/partwright/reader/HeaderValueTypeOfPinLaw", "same", "(Ljava/lang/String;[CIII)Z"⟩ : MethodName)) hown203 (mvT hZ203 (own_w80 hw)) (mvT hZ203 (own_w81 hw)) (mvT hZ203 (own_w4 hw)) (mvT hZ203 (own_w82 hw)) (by decide) (backOf (W := 0) (rmAt l Z a0 hw [] nr203 nv203 nk203 nm203 (own_sub (own_ys [(own_b r_3), (own_b r_7), (own_b r_11)]) (own_lo (own_ys [(own_b r_3), (own_b r_7), (own_b r_11)])) nm203) b1 k1 r_3 r_7 r_11 r_15 (2 : Int32) mj lj0 cs fm T203.heap n0 O_203 FS Er203 Fc203 Fv203 Vr203 f223 (own_hatq g1 g2 g3 g4 g5 g6 g7 (by decide))) hZ203 (own_w82 hw) (own_w4 hw) (by decide) (by decide)) (g := (mkF m 414 #[.val (.int i0), .val (.int i1), .val (.int i2), .val (.int i3), .val (.int i4), .val (.int 3), .val (.ref b1), .val (.ref b170), .val (.ref nr203), .val (.int ej0), .val (.int lj0), .val (.int hj2), .val (.int mj)] [(.int 2), (.int mj), (.int lj0), (.ref b1), (.ref nr203)])) rfl (by rw [hml]; rfl) (argsL := [(.ref nr203), (.ref b1), (.int lj0), (.int mj), (.int 2)]) (rest := []) (lenOf pd_25 rfl) rfl (by show 2 * 0 + _ ≤ _; exact Nat.le_of_eq rfl) (hb hby at_414) (fun _ _ => ⟨rfl, eh224, (by decide : 8 + 0 ≤ _), (by decide : 32 + 0 ≤ _)⟩)
              dsimp only [Pt.U, Pt.locs, Pt.cells, Pt.slots] at X225 l225 y225 z225 st225 hQ225
              subst l225 y225 z225
              obtain ⟨rfl, Nq225, eh225⟩ := hQ225
              have N225 := Fr.app N224 Nq225
              refine GoesW.step (B := T225.setTop (mkF m 417 #[.val (.int i0), .val (.int i1), .val (.int i2), .val (.int i3), .val (.int i4), .val (.int 3), .val (.ref b1), .val (.ref b170), .val (.ref nr203), .val (.int ej0), .val (.int lj0), .val (.int hj2), .val (.int mj)] [(.int 1)])) st225 ?_
              refine GoesW.step (fun _ k => pw_ifNo X225.here hx (hb hby at_417) ((if0 _ _).trans (feq (by decide)).1) _ (pw_aload X225.here hx (hb hby at_420) rfl rfl _ (pw_aload X225.here hx (hb hby at_422) rfl rfl _ (pw_iload X225.here hx (hb hby at_424) rfl _ (pw_iload X225.here hx (hb hby at_426) rfl _ (pw_iconst X225.here hx (v := (3 : Int32)) (hb hby at_428) rfl _ k)))))) ?_
              obtain ⟨_, _, ⟨T226, L226, k226, n226⟩, -, X226, ⟨Lc226, hQ226, l226, y226, z226⟩, st226⟩ := Jvm.LawKit.callS X225 hx (y := (⟨"com/example/partwright/partwright/reader/HeaderValueTypeOfPinLaw", "same", "(Ljava/lang/String;[CIII)Z"⟩ : MethodName)) hown203 (mvT hZ203 (own_w80 hw)) (mvT hZ203 (own_w81 hw)) (mvT hZ203 (own_w4 hw)) (mvT hZ203 (own_w82 hw)) (by decide) (backOf (W := 0) (rmAt l Z a0 hw [] nr203 nv203 nk203 nm203 (own_sub (own_ys [(own_b r_3), (own_b r_7), (own_b r_11)]) (own_lo (own_ys [(own_b r_3), (own_b r_7), (own_b r_11)])) nm203) b1 k1 r_3 r_7 r_11 r_15 (3 : Int32) mj lj0 cs fm T203.heap n0 O_203 FS Er203 Fc203 Fv203 Vr203 f223 (own_hatq g1 g2 g3 g4 g5 g6 g7 (by decide))) hZ203 (own_w82 hw) (own_w4 hw) (by decide) (by decide)) (g := (mkF m 429 #[.val (.int i0), .val (.int i1), .val (.int i2), .val (.int i3), .val (.int i4), .val (.int 3), .val (.ref b1), .val (.ref b170), .val (.ref nr203), .val (.int ej0), .val (.int lj0), .val (.int hj2), .val (.int mj)] [(.int 3), (.int mj), (.int lj0), (.ref b1), (.ref nr203)])) rfl (by rw [hml]; rfl) (argsL := [(.ref nr203), (.ref b1), (.int lj0), (.int mj), (.int 3)]) (rest := []) (lenOf pd_25 rfl) rfl (by show 2 * 0 + _ ≤ _; exact Nat.le_of_eq rfl) (hb hby at_429) (fun _ _ => ⟨rfl, eh225, (by decide : 8 + 0 ≤ _), (by decide : 32 + 0 ≤ _)⟩)
              dsimp only [Pt.U, Pt.locs, Pt.cells, Pt.slots] at X226 l226 y226 z226 st226 hQ226
              subst l226 y226 z226
              obtain ⟨rfl, Nq226, eh226⟩ := hQ226
              have N226 := Fr.app N225 Nq226
              refine GoesW.step (B := T226.setTop (mkF m 432 #[.val (.int i0), .val (.int i1), .val (.int i2), .val (.int i3), .val (.int i4), .val (.int 3), .val (.ref b1), .val (.ref b170), .val (.ref nr203), .val (.int ej0), .val (.int lj0), .val (.int hj2), .val (.int mj)] [(.int 1)])) st226 ?_
              refine GoesW.step (fun _ k => pw_ifNo X226.here hx (hb hby at_432) ((if0 _ _).trans (feq (by decide)).1) _ (pw_iconst X226.here hx (v := (1 : Int32)) (hb hby at_435) rfl _ (pw_goto X226.here hx (pc' := 440) (hb hby at_436) (by decide) (by decide) _ k))) ?_
              exact GoesW.retN X226 hS203 (Nat.le_refl _) hx eh226 (t := .boolean) Bd.returns (by simp) hlk (hb hby at_440) (by decide) (by decide) (⟨rfl, N226⟩)
             refine GoesW.step (fun _ k => pw_iload X203.here hx (hb hby at_343) rfl _ (pw_iload X203.here hx (hb hby at_345) rfl _ k)) ?_
             by_cases hc347_226 : hj2 < lj0
             · refine GoesW.step (fun _ k => pw_icmpYes X203.here hx (pc' := 360) (hb hby at_347) (tlt hc347_226).1 (by decide) (by decide) _ (pw_iconst X203.here hx (v := (0 : Int32)) (hb hby at_360) rfl _ (pw_istore X203.here hx (l' := #[.val (.int i0), .val (.int i1), .val (.int i2), .val (.int i3), .val (.int i4), .val (.int 3), .val (.ref b1), .val (.ref b170), .val (.ref nr203), .val (.int ej0), .val (.int lj0), .val (.int hj2), .val (.int 0)]) (hb hby at_361) rfl _ k))) ?_
               exact J219 (0 : Int32) (by rw [if_pos hc347_226])
             · refine GoesW.step (fun _ k => pw_icmpNo X203.here hx (hb hby at_347) (flt hc347_226).1 _ (pw_iload X203.here hx (hb hby at_350) rfl _ (pw_iload X203.here hx (hb hby at_352) rfl _ (pw_isub X203.here hx (hb hby at_354) _ (pw_iconst X203.here hx (v := (1 : Int32)) (hb hby at_355) rfl _ (pw_iadd X203.here hx (hb hby at_356) _ k)))))) ?_
               refine GoesW.step (fun _ k => pw_goto X203.here hx (pc' := 361) (hb hby at_357) (by decide) (by decide) _ (pw_istore X203.here hx (l' := #[.val (.int i0), .val (.int i1), .val (.int i2), .val (.int i3), .val (.int i4), .val (.int 3), .val (.ref b1), .val (.ref b170), .val (.ref nr203), .val (.int ej0), .val (.int lj0), .val (.int hj2), .val (.int ((hj2 - lj0) + (1 : Int32)))]) (hb hby at_361) rfl _ k)) ?_
               exact J219 ((hj2 - lj0) + (1 : Int32)) (by rw [if_neg hc347_226])
            refine GoesW.step (fun _ k => pw_iconst X203.here hx (v := (2 : Int32)) (hb hby at_307) rfl _ (pw_iload X203.here hx (hb hby at_308) rfl _ k)) ?_
            by_cases hc310_227 : (2 : Int32) < ej0
            · refine GoesW.step (fun _ k => pw_icmpNo X203.here hx (hb hby at_310) (tlt hc310_227).2.1 _ (pw_aload X203.here hx (hb hby at_313) rfl rfl _ (pw_iconst X203.here hx (v := (2 : Int32)) (hb hby at_315) rfl _ k))) ?_
              have f229 := (f206.keep Kp203 nin0)
              obtain ⟨c230, Ar230, -, Sz230, Nn230, Hs230, -⟩ := id f229
              have hin230 : ¬ ((2 : Int32) < 0 ∨ c230.slots.size ≤ ((2 : Int32)).toNatClampNeg) := inb_of Sz230 ⟨by decide, by decide⟩
              refine GoesW.step (B := T203.setTop (mkF m 317 #[.val (.int i0), .val (.int i1), .val (.int i2), .val (.int i3), .val (.int i4), .val (.int 3), .val (.ref b1), .val (.ref b170), .val (.ref nr203), .val (.int ej0), .val (.int lj0), .val (.int hj1), .unset] [(.int r_11)])) (X203.caload hx (j := (2 : Int32)) (v := (.int r_11)) (by exact Ar230.1) (State.isArrayOf_alike hZ203.alike Ar230.2.1) Ar230.2.2 hin230 (Has.at Hs230 hin230 rfl) (g := (mkF m 316 #[.val (.int i0), .val (.int i1), .val (.int i2), .val (.int i3), .val (.int i4), .val (.int 3), .val (.ref b1), .val (.ref b170), .val (.ref nr203), .val (.int ej0), .val (.int lj0), .val (.int hj1), .unset] [(.int 2), (.ref b1)])) rfl rfl (hb hby at_316)) ?_
              refine GoesW.step (fun _ k => pw_bipush X203.here hx (v := (32 : Int32)) (hb hby at_317) rfl _ k) ?_
              by_cases hc319_230 : (32 : Int32) < r_11
              · refine GoesW.step (fun _ k => pw_icmpNo X203.here hx (hb hby at_319) (tlt hc319_230).2.2.2 _ (pw_iconst X203.here hx (v := (2 : Int32)) (hb hby at_322) rfl _ (pw_istore X203.here hx (l' := #[.val (.int i0), .val (.int i1), .val (.int i2), .val (.int i3), .val (.int i4), .val (.int 3), .val (.ref b1), .val (.ref b170), .val (.ref nr203), .val (.int ej0), .val (.int lj0), .val (.int 2), .unset]) (hb hby at_323) rfl _ k))) ?_
                exact J218 (2 : Int32) (by rw [own_lq, if_pos hc310_227, if_pos hc319_230])
              · refine GoesW.step (fun _ k => pw_icmpYes X203.here hx (pc' := 325) (hb hby at_319) (flt hc319_230).2.2.2 (by decide) (by decide) _ k) ?_
                exact J218 hj1 (by rw [own_lq, if_pos hc310_227, if_neg hc319_230])
            · refine GoesW.step (fun _ k => pw_icmpYes X203.here hx (pc' := 325) (hb hby at_310) (flt hc310_227).2.1 (by decide) (by decide) _ k) ?_
              exact J218 hj1 (by rw [own_lq, if_neg hc310_227])
           refine GoesW.step (fun _ k => pw_iconst X203.here hx (v := (1 : Int32)) (hb hby at_289) rfl _ (pw_iload X203.here hx (hb hby at_290) rfl _ k)) ?_
           by_cases hc292_231 : (1 : Int32) < ej0
           · refine GoesW.step (fun _ k => pw_icmpNo X203.here hx (hb hby at_292) (tlt hc292_231).2.1 _ (pw_aload X203.here hx (hb hby at_295) rfl rfl _ (pw_iconst X203.here hx (v := (1 : Int32)) (hb hby at_297) rfl _ k))) ?_
             have f233 := (f206.keep Kp203 nin0)
             obtain ⟨c234, Ar234, -, Sz234, Nn234, Hs234, -⟩ := id f233
             have hin234 : ¬ ((1 : Int32) < 0 ∨ c234.slots.size ≤ ((1 : Int32)).toNatClampNeg) := inb_of Sz234 ⟨by decide, by decide⟩
             refine GoesW.step (B := T203.setTop (mkF m 299 #[.val (.int i0), .val (.int i1), .val (.int i2), .val (.int i3), .val (.int i4), .val (.int 3), .val (.ref b1), .val (.ref b170), .val (.ref nr203), .val (.int ej0), .val (.int lj0), .val (.int hj0), .unset] [(.int r_7)])) (X203.caload hx (j := (1 : Int32)) (v := (.int r_7)) (by exact Ar234.1) (State.isArrayOf_alike hZ203.alike Ar234.2.1) Ar234.2.2 hin234 (Has.at Hs234 hin234 rfl) (g := (mkF m 298 #[.val (.int i0), .val (.int i1), .val (.int i2), .val (.int i3), .val (.int i4), .val (.int 3), .val (.ref b1), .val (.ref b170), .val (.ref nr203), .val (.int ej0), .val (.int lj0), .val (.int hj0), .unset] [(.int 1), (.ref b1)])) rfl rfl (hb hby at_298)) ?_
             refine GoesW.step (fun _ k => pw_bipush X203.here hx (v := (32 : Int32)) (hb hby at_299) rfl _ k) ?_
             by_cases hc301_234 : (32 : Int32) < r_7
             · refine GoesW.step (fun _ k => pw_icmpNo X203.here hx (hb hby at_301) (tlt hc301_234).2.2.2 _ (pw_iconst X203.here hx (v := (1 : Int32)) (hb hby at_304) rfl _ (pw_istore X203.here hx (l' := #[.val (.int i0), .val (.int i1), .val (.int i2), .val (.int i3), .val (.int i4), .val (.int 3), .val (.ref b1), .val (.ref b170), .val (.ref nr203), .val (.int ej0), .val (.int lj0), .val (.int 1), .unset]) (hb hby at_305) rfl _ k))) ?_
               exact J217 (1 : Int32) (by rw [own_lq, if_pos hc292_231, if_pos hc301_234])
             · refine GoesW.step (fun _ k => pw_icmpYes X203.here hx (pc' := 307) (hb hby at_301) (flt hc301_234).2.2.2 (by decide) (by decide) _ k) ?_
               exact J217 hj0 (by rw [own_lq, if_pos hc292_231, if_neg hc301_234])
           · refine GoesW.step (fun _ k => pw_icmpYes X203.here hx (pc' := 307) (hb hby at_292) (flt hc292_231).2.1 (by decide) (by decide) _ k) ?_
             exact J217 hj0 (by rw [own_lq, if_neg hc292_231])
          refine GoesW.step (fun _ k => pw_iconst X203.here hx (v := (0 : Int32)) (hb hby at_271) rfl _ (pw_iload X203.here hx (hb hby at_272) rfl _ k)) ?_
          by_cases hc274_235 : (0 : Int32) < ej0
          · refine GoesW.step (fun _ k => pw_icmpNo X203.here hx (hb hby at_274) (tlt hc274_235).2.1 _ (pw_aload X203.here hx (hb hby at_277) rfl rfl _ (pw_iconst X203.here hx (v := (0 : Int32)) (hb hby at_279) rfl _ k))) ?_
            have f237 := (f206.keep Kp203 nin0)
            obtain ⟨c238, Ar238, -, Sz238, Nn238, Hs238, -⟩ := id f237
            have hin238 : ¬ ((0 : Int32) < 0 ∨ c238.slots.size ≤ ((0 : Int32)).toNatClampNeg) := inb_of Sz238 ⟨by decide, by decide⟩
            refine GoesW.step (B := T203.setTop (mkF m 281 #[.val (.int i0), .val (.int i1), .val (.int i2), .val (.int i3), .val (.int i4), .val (.int 3), .val (.ref b1), .val (.ref b170), .val (.ref nr203), .val (.int ej0), .val (.int lj0), .val (.int (-1)), .unset] [(.int r_3)])) (X203.caload hx (j := (0 : Int32)) (v := (.int r_3)) (by exact Ar238.1) (State.isArrayOf_alike hZ203.alike Ar238.2.1) Ar238.2.2 hin238 (Has.at Hs238 hin238 rfl) (g := (mkF m 280 #[.val (.int i0), .val (.int i1), .val (.int i2), .val (.int i3), .val (.int i4), .val (.int 3), .val (.ref b1), .val (.ref b170), .val (.ref nr203), .val (.int ej0), .val (.int lj0), .val (.int (-1)), .unset] [(.int 0), (.ref b1)])) rfl rfl (hb hby at_280)) ?_
            refine GoesW.step (fun _ k => pw_bipush X203.here hx (v := (32 : Int32)) (hb hby at_281) rfl _ k) ?_
            by_cases hc283_238 : (32 : Int32) < r_3
            · refine GoesW.step (fun _ k => pw_icmpNo X203.here hx (hb hby at_283) (tlt hc283_238).2.2.2 _ (pw_iconst X203.here hx (v := (0 : Int32)) (hb hby at_286) rfl _ (pw_istore X203.here hx (l' := #[.val (.int i0), .val (.int i1), .val (.int i2), .val (.int i3), .val (.int i4), .val (.int 3), .val (.ref b1), .val (.ref b170), .val (.ref nr203), .val (.int ej0), .val (.int lj0), .val (.int 0), .unset]) (hb hby at_287) rfl _ k))) ?_
              exact J216 (0 : Int32) (by rw [own_lq, if_pos hc274_235, if_pos hc283_238])
            · refine GoesW.step (fun _ k => pw_icmpYes X203.here hx (pc' := 289) (hb hby at_283) (flt hc283_238).2.2.2 (by decide) (by decide) _ k) ?_
              exact J216 (-1 : Int32) (by rw [own_lq, if_pos hc274_235, if_neg hc283_238])
          · refine GoesW.step (fun _ k => pw_icmpYes X203.here hx (pc' := 289) (hb hby at_274) (flt hc274_235).2.1 (by decide) (by decide) _ k) ?_
            exact J216 (-1 : Int32) (by rw [own_lq, if_neg hc274_235])
         refine GoesW.step (fun _ k => pw_iconst X203.here hx (v := (0 : Int32)) (hb hby at_250) rfl _ (pw_iload X203.here hx (hb hby at_251) rfl _ k)) ?_
         by_cases hc253_239 : (0 : Int32) < ej0
         · refine GoesW.step (fun _ k => pw_icmpNo X203.here hx (hb hby at_253) (tlt hc253_239).2.1 _ (pw_aload X203.here hx (hb hby at_256) rfl rfl _ (pw_iconst X203.here hx (v := (0 : Int32)) (hb hby at_258) rfl _ k))) ?_
           have f241 := (f206.keep Kp203 nin0)
           obtain ⟨c242, Ar242, -, Sz242, Nn242, Hs242, -⟩ := id f241
           have hin242 : ¬ ((0 : Int32) < 0 ∨ c242.slots.size ≤ ((0 : Int32)).toNatClampNeg) := inb_of Sz242 ⟨by decide, by decide⟩
           refine GoesW.step (B := T203.setTop (mkF m 260 #[.val (.int i0), .val (.int i1), .val (.int i2), .val (.int i3), .val (.int i4), .val (.int 3), .val (.ref b1), .val (.ref b170), .val (.ref nr203), .val (.int ej0), .val (.int lj1), .unset, .unset] [(.int r_3)])) (X203.caload hx (j := (0 : Int32)) (v := (.int r_3)) (by exact Ar242.1) (State.isArrayOf_alike hZ203.alike Ar242.2.1) Ar242.2.2 hin242 (Has.at Hs242 hin242 rfl) (g := (mkF m 259 #[.val (.int i0), .val (.int i1), .val (.int i2), .val (.int i3), .val (.int i4), .val (.int 3), .val (.ref b1), .val (.ref b170), .val (.ref nr203), .val (.int ej0), .val (.int lj1), .unset, .unset] [(.int 0), (.ref b1)])) rfl rfl (hb hby at_259)) ?_
           refine GoesW.step (fun _ k => pw_bipush X203.here hx (v := (32 : Int32)) (hb hby at_260) rfl _ k) ?_
           by_cases hc262_242 : (32 : Int32) < r_3
           · refine GoesW.step (fun _ k => pw_icmpNo X203.here hx (hb hby at_262) (tlt hc262_242).2.2.2 _ (pw_iconst X203.here hx (v := (0 : Int32)) (hb hby at_265) rfl _ (pw_istore X203.here hx (l' := #[.val (.int i0), .val (.int i1), .val (.int i2), .val (.int i3), .val (.int i4), .val (.int 3), .val (.ref b1), .val (.ref b170), .val (.ref nr203), .val (.int ej0), .val (.int 0), .unset, .unset]) (hb hby at_266) rfl _ k))) ?_
             exact J215 (0 : Int32) (by rw [own_lq, if_pos hc253_239, if_pos hc262_242])
           · refine GoesW.step (fun _ k => pw_icmpYes X203.here hx (pc' := 268) (hb hby at_262) (flt hc262_242).2.2.2 (by decide) (by decide) _ k) ?_
             exact J215 lj1 (by rw [own_lq, if_pos hc253_239, if_neg hc262_242])
         · refine GoesW.step (fun _ k => pw_icmpYes X203.here hx (pc' := 268) (hb hby at_253) (flt hc253_239).2.1 (by decide) (by decide) _ k) ?_
           exact J215 lj1 (by rw [own_lq, if_neg hc253_239])
        refine GoesW.step (fun _ k => pw_iconst X203.here hx (v := (1 : Int32)) (hb hby at_232) rfl _ (pw_iload X203.here hx (hb hby at_233) rfl _ k)) ?_
        by_cases hc235_243 : (1 : Int32) < ej0
        · refine GoesW.step (fun _ k => pw_icmpNo X203.here hx (hb hby at_235) (tlt hc235_243).2.1 _ (pw_aload X203.here hx (hb hby at_238) rfl rfl _ (pw_iconst X203.here hx (v := (1 : Int32)) (hb hby at_240) rfl _ k))) ?_
          have f245 := (f206.keep Kp203 nin0)
          obtain ⟨c246, Ar246, -, Sz246, Nn246, Hs246, -⟩ := id f245
          have hin246 : ¬ ((1 : Int32) < 0 ∨ c246.slots.size ≤ ((1 : Int32)).toNatClampNeg) := inb_of Sz246 ⟨by decide, by decide⟩
          refine GoesW.step (B := T203.setTop (mkF m 242 #[.val (.int i0), .val (.int i1), .val (.int i2), .val (.int i3), .val (.int i4), .val (.int 3), .val (.ref b1), .val (.ref b170), .val (.ref nr203), .val (.int ej0), .val (.int lj2), .unset, .unset] [(.int r_7)])) (X203.caload hx (j := (1 : Int32)) (v := (.int r_7)) (by exact Ar246.1) (State.isArrayOf_alike hZ203.alike Ar246.2.1) Ar246.2.2 hin246 (Has.at Hs246 hin246 rfl) (g := (mkF m 241 #[.val (.int i0), .val (.int i1), .val (.int i2), .val (.int i3), .val (.int i4), .val (.int 3), .val (.ref b1), .val (.ref b170), .val (.ref nr203), .val (.int ej0), .val (.int lj2), .unset, .unset] [(.int 1), (.ref b1)])) rfl rfl (hb hby at_241)) ?_
          refine GoesW.step (fun _ k => pw_bipush X203.here hx (v := (32 : Int32)) (hb hby at_242) rfl _ k) ?_
          by_cases hc244_246 : (32 : Int32) < r_7
          · refine GoesW.step (fun _ k => pw_icmpNo X203.here hx (hb hby at_244) (tlt hc244_246).2.2.2 _ (pw_iconst X203.here hx (v := (1 : Int32)) (hb hby at_247) rfl _ (pw_istore X203.here hx (l' := #[.val (.int i0), .val (.int i1), .val (.int i2), .val (.int i3), .val (.int i4), .val (.int 3), .val (.ref b1), .val (.ref b170), .val (.ref nr203), .val (.int ej0), .val (.int 1), .unset, .unset]) (hb hby at_248) rfl _ k))) ?_
            exact J214 (1 : Int32) (by rw [own_lq, if_pos hc235_243, if_pos hc244_246])
          · refine GoesW.step (fun _ k => pw_icmpYes X203.here hx (pc' := 250) (hb hby at_244) (flt hc244_246).2.2.2 (by decide) (by decide) _ k) ?_
            exact J214 lj2 (by rw [own_lq, if_pos hc235_243, if_neg hc244_246])
        · refine GoesW.step (fun _ k => pw_icmpYes X203.here hx (pc' := 250) (hb hby at_235) (flt hc235_243).2.1 (by decide) (by decide) _ k) ?_
          exact J214 lj2 (by rw [own_lq, if_neg hc235_243])
       refine GoesW.step (fun _ k => pw_iconst X203.here hx (v := (2 : Int32)) (hb hby at_214) rfl _ (pw_iload X203.here hx (hb hby at_215) rfl _ k)) ?_
       by_cases hc217_247 : (2 : Int32) < ej0
       · refine GoesW.step (fun _ k => pw_icmpNo X203.here hx (hb hby at_217) (tlt hc217_247).2.1 _ (pw_aload X203.here hx (hb hby at_220) rfl rfl _ (pw_iconst X203.here hx (v := (2 : Int32)) (hb hby at_222) rfl _ k))) ?_
         have f249 := (f206.keep Kp203 nin0)
         obtain ⟨c250, Ar250, -, Sz250, Nn250, Hs250, -⟩ := id f249
         have hin250 : ¬ ((2 : Int32) < 0 ∨ c250.slots.size ≤ ((2 : Int32)).toNatClampNeg) := inb_of Sz250 ⟨by decide, by decide⟩
         refine GoesW.step (B := T203.setTop (mkF m 224 #[.val (.int i0), .val (.int i1), .val (.int i2), .val (.int i3), .val (.int i4), .val (.int 3), .val (.ref b1), .val (.ref b170), .val (.ref nr203), .val (.int ej0), .val (.int ej0), .unset, .unset] [(.int r_11)])) (X203.caload hx (j := (2 : Int32)) (v := (.int r_11)) (by exact Ar250.1) (State.isArrayOf_alike hZ203.alike Ar250.2.1) Ar250.2.2 hin250 (Has.at Hs250 hin250 rfl) (g := (mkF m 223 #[.val (.int i0), .val (.int i1), .val (.int i2), .val (.int i3), .val (.int i4), .val (.int 3), .val (.ref b1), .val (.ref b170), .val (.ref nr203), .val (.int ej0), .val (.int ej0), .unset, .unset] [(.int 2), (.ref b1)])) rfl rfl (hb hby at_223)) ?_
         refine GoesW.step (fun _ k => pw_bipush X203.here hx (v := (32 : Int32)) (hb hby at_224) rfl _ k) ?_
         by_cases hc226_250 : (32 : Int32) < r_11
         · refine GoesW.step (fun _ k => pw_icmpNo X203.here hx (hb hby at_226) (tlt hc226_250).2.2.2 _ (pw_iconst X203.here hx (v := (2 : Int32)) (hb hby at_229) rfl _ (pw_istore X203.here hx (l' := #[.val (.int i0), .val (.int i1), .val (.int i2), .val (.int i3), .val (.int i4), .val (.int 3), .val (.ref b1), .val (.ref b170), .val (.ref nr203), .val (.int ej0), .val (.int 2), .unset, .unset]) (hb hby at_230) rfl _ k))) ?_
           exact J213 (2 : Int32) (by rw [own_lq, if_pos hc217_247, if_pos hc226_250])
         · refine GoesW.step (fun _ k => pw_icmpYes X203.here hx (pc' := 232) (hb hby at_226) (flt hc226_250).2.2.2 (by decide) (by decide) _ k) ?_
           exact J213 ej0 (by rw [own_lq, if_pos hc217_247, if_neg hc226_250])
       · refine GoesW.step (fun _ k => pw_icmpYes X203.here hx (pc' := 232) (hb hby at_217) (flt hc217_247).2.1 (by decide) (by decide) _ k) ?_
         exact J213 ej0 (by rw [own_lq, if_neg hc217_247])
      refine GoesW.step (fun _ k => pw_aload X203.here hx (hb hby at_180) rfl rfl _ (pw_iconst X203.here hx (v := (0 : Int32)) (hb hby at_182) rfl _ k)) ?_
      have f252 := (f206.keep Kp203 nin0)
      obtain ⟨c253, Ar253, -, Sz253, Nn253, Hs253, -⟩ := id f252
      have hin253 : ¬ ((0 : Int32) < 0 ∨ c253.slots.size ≤ ((0 : Int32)).toNatClampNeg) := inb_of Sz253 ⟨by decide, by decide⟩
      refine GoesW.step (B := T203.setTop (mkF m 184 #[.val (.int i0), .val (.int i1), .val (.int i2), .val (.int i3), .val (.int i4), .val (.int 3), .val (.ref b1), .val (.ref b170), .val (.ref nr203), .val (.int ej1), .unset, .unset, .unset] [(.int r_3)])) (X203.caload hx (j := (0 : Int32)) (v := (.int r_3)) (by exact Ar253.1) (State.isArrayOf_alike hZ203.alike Ar253.2.1) Ar253.2.2 hin253 (Has.at Hs253 hin253 rfl) (g := (mkF m 183 #[.val (.int i0), .val (.int i1), .val (.int i2), .val (.int i3), .val (.int i4), .val (.int 3), .val (.ref b1), .val (.ref b170), .val (.ref nr203), .val (.int ej1), .unset, .unset, .unset] [(.int 0), (.ref b1)])) rfl rfl (hb hby at_183)) ?_
      refine GoesW.step (fun _ k => pw_bipush X203.here hx (v := (59 : Int32)) (hb hby at_184) rfl _ k) ?_
      by_cases hc186_253 : r_3 = (59 : Int32)
      · refine GoesW.step (fun _ k => pw_icmpNo X203.here hx (hb hby at_186) (teq hc186_253).2 _ (pw_iconst X203.here hx (v := (0 : Int32)) (hb hby at_189) rfl _ (pw_istore X203.here hx (l' := #[.val (.int i0), .val (.int i1), .val (.int i2), .val (.int i3), .val (.int i4), .val (.int 3), .val (.ref b1), .val (.ref b170), .val (.ref nr203), .val (.int 0), .unset, .unset, .unset]) (hb hby at_190) rfl _ k))) ?_
        exact J212 (0 : Int32) (by rw [if_pos hc186_253])
      · refine GoesW.step (fun _ k => pw_icmpYes X203.here hx (pc' := 192) (hb hby at_186) (feq hc186_253).2 (by decide) (by decide) _ k) ?_
        exact J212 ej1 (by rw [if_neg hc186_253])
     refine GoesW.step (fun _ k => pw_aload X203.here hx (hb hby at_163) rfl rfl _ (pw_iconst X203.here hx (v := (1 : Int32)) (hb hby at_165) rfl _ k)) ?_
     have f255 := (f206.keep Kp203 nin0)
     obtain ⟨c256, Ar256, -, Sz256, Nn256, Hs256, -⟩ := id f255
     have hin256 : ¬ ((1 : Int32) < 0 ∨ c256.slots.size ≤ ((1 : Int32)).toNatClampNeg) := inb_of Sz256 ⟨by decide, by decide⟩
     refine GoesW.step (B := T203.setTop (mkF m 167 #[.val (.int i0), .val (.int i1), .val (.int i2), .val (.int i3), .val (.int i4), .val (.int 3), .val (.ref b1), .val (.ref b170), .val (.ref nr203), .val (.int ej2), .unset, .unset, .unset] [(.int r_7)])) (X203.caload hx (j := (1 : Int32)) (v := (.int r_7)) (by exact Ar256.1) (State.isArrayOf_alike hZ203.alike Ar256.2.1) Ar256.2.2 hin256 (Has.at Hs256 hin256 rfl) (g := (mkF m 166 #[.val (.int i0), .val (.int i1), .val (.int i2), .val (.int i3), .val (.int i4), .val (.int 3), .val (.ref b1), .val (.ref b170), .val (.ref nr203), .val (.int ej2), .unset, .unset, .unset] [(.int 1), (.ref b1)])) rfl rfl (hb hby at_166)) ?_
     refine GoesW.step (fun _ k => pw_bipush X203.here hx (v := (59 : Int32)) (hb hby at_167) rfl _ k) ?_
     by_cases hc169_256 : r_7 = (59 : Int32)
     · refine GoesW.step (fun _ k => pw_icmpNo X203.here hx (hb hby at_169) (teq hc169_256).2 _ (pw_iconst X203.here hx (v := (1 : Int32)) (hb hby at_172) rfl _ (pw_istore X203.here hx (l' := #[.val (.int i0), .val (.int i1), .val (.int i2), .val (.int i3), .val (.int i4), .val (.int 3), .val (.ref b1), .val (.ref b170), .val (.ref nr203), .val (.int 1), .unset, .unset, .unset]) (hb hby at_173) rfl _ k))) ?_
       exact J211 (1 : Int32) (by rw [if_pos hc169_256])
     · refine GoesW.step (fun _ k => pw_icmpYes X203.here hx (pc' := 175) (hb hby at_169) (feq hc169_256).2 (by decide) (by decide) _ k) ?_
       exact J211 ej2 (by rw [if_neg hc169_256])
    refine GoesW.step (fun _ k => pw_aload X203.here hx (hb hby at_145) rfl rfl _ (pw_iconst X203.here hx (v := (2 : Int32)) (hb hby at_147) rfl _ k)) ?_
    have f258 := (f206.keep Kp203 nin0)
    obtain ⟨c259, Ar259, -, Sz259, Nn259, Hs259, -⟩ := id f258
    have hin259 : ¬ ((2 : Int32) < 0 ∨ c259.slots.size ≤ ((2 : Int32)).toNatClampNeg) := inb_of Sz259 ⟨by decide, by decide⟩
    refine GoesW.step (B := T203.setTop (mkF m 149 #[.val (.int i0), .val (.int i1), .val (.int i2), .val (.int i3), .val (.int i4), .val (.int 3), .val (.ref b1), .val (.ref b170), .val (.ref nr203), .val (.int 3), .unset, .unset, .unset] [(.int r_11)])) (X203.caload hx (j := (2 : Int32)) (v := (.int r_11)) (by exact Ar259.1) (State.isArrayOf_alike hZ203.alike Ar259.2.1) Ar259.2.2 hin259 (Has.at Hs259 hin259 rfl) (g := (mkF m 148 #[.val (.int i0), .val (.int i1), .val (.int i2), .val (.int i3), .val (.int i4), .val (.int 3), .val (.ref b1), .val (.ref b170), .val (.ref nr203), .val (.int 3), .unset, .unset, .unset] [(.int 2), (.ref b1)])) rfl rfl (hb hby at_148)) ?_
    refine GoesW.step (fun _ k => pw_bipush X203.here hx (v := (59 : Int32)) (hb hby at_149) rfl _ k) ?_
    by_cases hc151_259 : r_11 = (59 : Int32)
    · refine GoesW.step (fun _ k => pw_icmpNo X203.here hx (hb hby at_151) (teq hc151_259).2 _ (pw_iconst X203.here hx (v := (2 : Int32)) (hb hby at_154) rfl _ (pw_istore X203.here hx (l' := #[.val (.int i0), .val (.int i1), .val (.int i2), .val (.int i3), .val (.int i4), .val (.int 3), .val (.ref b1), .val (.ref b170), .val (.ref nr203), .val (.int 2), .unset, .unset, .unset]) (hb hby at_155) rfl _ k))) ?_
      exact J210 (2 : Int32) (by rw [if_pos hc151_259])
    · refine GoesW.step (fun _ k => pw_icmpYes X203.here hx (pc' := 157) (hb hby at_151) (feq hc151_259).2 (by decide) (by decide) _ k) ?_
      exact J210 (3 : Int32) (by rw [if_neg hc151_259])
  · refine GoesW.step (fun _ k => pw_iload X16.here hx (hb hby at_42) rfl _ k) ?_
    obtain ⟨T261, h261, k261, X261, e261, E261, A261, st261⟩ := newP (aty := .char) X16 hx hZ (own_w1 hw) e16 (g := (mkF m 44 #[.val (.int i0), .val (.int i1), .val (.int i2), .val (.int i3), .val (.int i4), .val (.int 4), .val (.ref b1), .unset, .unset, .unset, .unset, .unset, .unset] [(.int 4)])) rfl (hb hby at_44) rfl (by decide) (cap := 4) (by decide) (by decide) (by decide) (by decide)
    obtain ⟨b261, g261⟩ : ∃ z, z = h16.size := ⟨_, rfl⟩
    rw [← g261] at A261 st261
    have ne_b1_b261 : b1 ≠ b261 := Nat.ne_of_lt (Nat.lt_of_lt_of_le Vn16.lt (Nat.le_of_eq g261.symm))
    have g_b261 : n0 ≤ b261 := Nat.le_trans (own_z O_16) (Nat.le_of_eq g261.symm)
    have Sf_b261 := Safe.ext E261 CH18.1 (Safe.new (Nat.le_of_eq g261.symm))
    have Sf262 := Safe.ext E261 CH18.1 Sf17
    have CH263 := CH18.trans (CHr.ext E261 CH18.1)
    have O_261 := O_16.ext E261
    have V_b261 : Arv Z h261 b261 k261 .char (4 : Int32) [(.int 0), (.int 0), (.int 0), (.int 0)] (.int 0) := (Arv.new A261 (by decide)).pad (pad_rep [] (.int 0) 4)
    refine GoesW.step (B := T261.setTop (mkF m 46 #[.val (.int i0), .val (.int i1), .val (.int i2), .val (.int i3), .val (.int i4), .val (.int 4), .val (.ref b1), .unset, .unset, .unset, .unset, .unset, .unset] [(.ref b261)])) st261 ?_
    refine GoesW.step (fun _ k => pw_astore X261.here hx (l' := #[.val (.int i0), .val (.int i1), .val (.int i2), .val (.int i3), .val (.int i4), .val (.int 4), .val (.ref b1), .val (.ref b261), .unset, .unset, .unset, .unset, .unset]) (hb hby at_46) rfl rfl _ (pw_iload X261.here hx (hb hby at_48) rfl _ (pw_ifNo X261.here hx (hb hby at_50) ((if0 _ _).trans (tlt (by decide)).2.2.2) _ (pw_aload X261.here hx (hb hby at_53) rfl rfl _ (pw_iconst X261.here hx (v := (0 : Int32)) (hb hby at_55) rfl _ (pw_aload X261.here hx (hb hby at_56) rfl rfl _ k)))))) ?_
    refine GoesW.step (fun _ k => pw_iconst X261.here hx (v := (0 : Int32)) (hb hby at_58) rfl _ k) ?_
    have f264 := (Vn16.ext E261)
    obtain ⟨c265, Ar265, -, Sz265, Nn265, Hs265, -⟩ := id f264
    have hin265 : ¬ ((0 : Int32) < 0 ∨ c265.slots.size ≤ ((0 : Int32)).toNatClampNeg) := inb_of Sz265 ⟨by decide, by decide⟩
    refine GoesW.step (B := T261.setTop (mkF m 60 #[.val (.int i0), .val (.int i1), .val (.int i2), .val (.int i3), .val (.int i4), .val (.int 4), .val (.ref b1), .val (.ref b261), .unset, .unset, .unset, .unset, .unset] [(.int r_3), (.int 0), (.ref b261)])) (X261.caload hx (j := (0 : Int32)) (v := (.int r_3)) (by rw [e261]; exact Ar265.1) (State.isArrayOf_alike hZ.alike Ar265.2.1) Ar265.2.2 hin265 (Has.at Hs265 hin265 rfl) (g := (mkF m 59 #[.val (.int i0), .val (.int i1), .val (.int i2), .val (.int i3), .val (.int i4), .val (.int 4), .val (.ref b1), .val (.ref b261), .unset, .unset, .unset, .unset, .unset] [(.int 0), (.ref b1), (.int 0), (.ref b261)])) rfl rfl (hb hby at_59)) ?_
    obtain ⟨c266, Ar266, q266, Sz266, Nn266, Hs266, Gs266⟩ := id V_b261
    have hin266 : ¬ ((0 : Int32) < 0 ∨ c266.slots.size ≤ ((0 : Int32)).toNatClampNeg) := inb_of Sz266 ⟨by decide, by decide⟩
    obtain ⟨T266, h266, X266, e266, W266, st266⟩ := stC X261 hx hZ e261 Ar266 (j := (0 : Int32)) hin266 (g := (mkF m 60 #[.val (.int i0), .val (.int i1), .val (.int i2), .val (.int i3), .val (.int i4), .val (.int 4), .val (.ref b1), .val (.ref b261), .unset, .unset, .unset, .unset, .unset] [(.int r_3), (.int 0), (.ref b261)])) rfl rfl (hb hby at_60)
    have Sf267 := Safe.wr W266 Sf_b261 CH263.1 Sf262
    have Sf268 := Safe.wr W266 Sf_b261 CH263.1 Sf_b261
    have CH269 := CH263.trans (CHr.wr W266 Sf_b261 CH263.1)
    have V266 : Arv Z h266 b261 k261 .char (4 : Int32) [(.int (nar .char r_3)), (.int 0), (.int 0), (.int 0)] (.int 0) := Arv.set Ar266 q266 Sz266 Nn266 Hs266 Gs266 (fits_nar_char _) W266 0 rfl (Nat.le_of_ble_eq_true rfl)
    have Vn266 : Arv Z h266 b261 k261 .char (4 : Int32) [(.int r_3), (.int 0), (.int 0), (.int 0)] (.int 0) := by have q := V266; rw [own_nr hok_3] at q; exact q
    have N266 := Fr.snoc X266 N16 g_b261
    have O_266 := O_261.wr W266 g_b261
    refine GoesW.step (B := T266.setTop (mkF m 61 #[.val (.int i0), .val (.int i1), .val (.int i2), .val (.int i3), .val (.int i4), .val (.int 4), .val (.ref b1), .val (.ref b261), .unset, .unset, .unset, .unset, .unset] [])) st266 ?_
    refine GoesW.step (fun _ k => pw_iload X266.here hx (hb hby at_61) rfl _ (pw_iconst X266.here hx (v := (1 : Int32)) (hb hby at_63) rfl _ (pw_icmpNo X266.here hx (hb hby at_64) (tlt (by decide)).2.2.2 _ (pw_aload X266.here hx (hb hby at_67) rfl rfl _ (pw_iconst X266.here hx (v := (1 : Int32)) (hb hby at_69) rfl _ (pw_aload X266.here hx (hb hby at_70) rfl rfl _ k)))))) ?_
    refine GoesW.step (fun _ k => pw_iconst X266.here hx (v := (1 : Int32)) (hb hby at_72) rfl _ k) ?_
    have f270 := (f264.other W266 ne_b1_b261)
    obtain ⟨c271, Ar271, -, Sz271, Nn271, Hs271, -⟩ := id f270
    have hin271 : ¬ ((1 : Int32) < 0 ∨ c271.slots.size ≤ ((1 : Int32)).toNatClampNeg) := inb_of Sz271 ⟨by decide, by decide⟩
    refine GoesW.step (B := T266.setTop (mkF m 74 #[.val (.int i0), .val (.int i1), .val (.int i2), .val (.int i3), .val (.int i4), .val (.int 4), .val (.ref b1), .val (.ref b261), .unset, .unset, .unset, .unset, .unset] [(.int r_7), (.int 1), (.ref b261)])) (X266.caload hx (j := (1 : Int32)) (v := (.int r_7)) (by rw [e266]; exact Ar271.1) (State.isArrayOf_alike hZ.alike Ar271.2.1) Ar271.2.2 hin271 (Has.at Hs271 hin271 rfl) (g := (mkF m 73 #[.val (.int i0), .val (.int i1), .val (.int i2), .val (.int i3), .val (.int i4), .val (.int 4), .val (.ref b1), .val (.ref b261), .unset, .unset, .unset, .unset, .unset] [(.int 1), (.ref b1), (.int 1), (.ref b261)])) rfl rfl (hb hby at_73)) ?_
    obtain ⟨c272, Ar272, q272, Sz272, Nn272, Hs272, Gs272⟩ := id Vn266
    have hin272 : ¬ ((1 : Int32) < 0 ∨ c272.slots.size ≤ ((1 : Int32)).toNatClampNeg) := inb_of Sz272 ⟨by decide, by decide⟩
    obtain ⟨T272, h272, X272, e272, W272, st272⟩ := stC X266 hx hZ e266 Ar272 (j := (1 : Int32)) hin272 (g := (mkF m 74 #[.val (.int i0), .val (.int i1), .val (.int i2), .val (.int i3), .val (.int i4), .val (.int 4), .val (.ref b1), .val (.ref b261), .unset, .unset, .unset, .unset, .unset] [(.int r_7), (.int 1), (.ref b261)])) rfl rfl (hb hby at_74)
    have Sf273 := Safe.wr W272 Sf268 CH269.1 Sf267
    have Sf274 := Safe.wr W272 Sf268 CH269.1 Sf268
    have CH275 := CH269.trans (CHr.wr W272 Sf268 CH269.1)
    have V272 : Arv Z h272 b261 k261 .char (4 : Int32) [(.int r_3), (.int (nar .char r_7)), (.int 0), (.int 0)] (.int 0) := Arv.set Ar272 q272 Sz272 Nn272 Hs272 Gs272 (fits_nar_char _) W272 1 rfl (Nat.le_of_ble_eq_true rfl)
    have Vn272 : Arv Z h272 b261 k261 .char (4 : Int32) [(.int r_3), (.int r_7), (.int 0), (.int 0)] (.int 0) := by have q := V272; rw [own_nr hok_7] at q; exact q
    have N272 := Fr.snoc X272 N266 g_b261
    have O_272 := O_266.wr W272 g_b261
    refine GoesW.step (B := T272.setTop (mkF m 75 #[.val (.int i0), .val (.int i1), .val (.int i2), .val (.int i3), .val (.int i4), .val (.int 4), .val (.ref b1), .val (.ref b261), .unset, .unset, .unset, .unset, .unset] [])) st272 ?_
    refine GoesW.step (fun _ k => pw_iload X272.here hx (hb hby at_75) rfl _ (pw_iconst X272.here hx (v := (2 : Int32)) (hb hby at_77) rfl _ (pw_icmpNo X272.here hx (hb hby at_78) (tlt (by decide)).2.2.2 _ (pw_aload X272.here hx (hb hby at_81) rfl rfl _ (pw_iconst X272.here hx (v := (2 : Int32)) (hb hby at_83) rfl _ (pw_aload X272.here hx (hb hby at_84) rfl rfl _ k)))))) ?_
    refine GoesW.step (fun _ k => pw_iconst X272.here hx (v := (2 : Int32)) (hb hby at_86) rfl _ k) ?_
    have f276 := (f270.other W272 ne_b1_b261)
    obtain ⟨c277, Ar277, -, Sz277, Nn277, Hs277, -⟩ := id f276
    have hin277 : ¬ ((2 : Int32) < 0 ∨ c277.slots.size ≤ ((2 : Int32)).toNatClampNeg) := inb_of Sz277 ⟨by decide, by decide⟩
    refine GoesW.step (B := T272.setTop (mkF m 88 #[.val (.int i0), .val (.int i1), .val (.int i2), .val (.int i3), .val (.int i4), .val (.int 4), .val (.ref b1), .val (.ref b261), .unset, .unset, .unset, .unset, .unset] [(.int r_11), (.int 2), (.ref b261)])) (X272.caload hx (j := (2 : Int32)) (v := (.int r_11)) (by rw [e272]; exact Ar277.1) (State.isArrayOf_alike hZ.alike Ar277.2.1) Ar277.2.2 hin277 (Has.at Hs277 hin277 rfl) (g := (mkF m 87 #[.val (.int i0), .val (.int i1), .val (.int i2), .val (.int i3), .val (.int i4), .val (.int 4), .val (.ref b1), .val (.ref b261), .unset, .unset, .unset, .unset, .unset] [(.int 2), (.ref b1), (.int 2), (.ref b261)])) rfl rfl (hb hby at_87)) ?_
    obtain ⟨c278, Ar278, q278, Sz278, Nn278, Hs278, Gs278⟩ := id Vn272
    have hin278 : ¬ ((2 : Int32) < 0 ∨ c278.slots.size ≤ ((2 : Int32)).toNatClampNeg) := inb_of Sz278 ⟨by decide, by decide⟩
    obtain ⟨T278, h278, X278, e278, W278, st278⟩ := stC X272 hx hZ e272 Ar278 (j := (2 : Int32)) hin278 (g := (mkF m 88 #[.val (.int i0), .val (.int i1), .val (.int i2), .val (.int i3), .val (.int i4), .val (.int 4), .val (.ref b1), .val (.ref b261), .unset, .unset, .unset, .unset, .unset] [(.int r_11), (.int 2), (.ref b261)])) rfl rfl (hb hby at_88)
    have Sf279 := Safe.wr W278 Sf274 CH275.1 Sf273
    have Sf280 := Safe.wr W278 Sf274 CH275.1 Sf274
    have CH281 := CH275.trans (CHr.wr W278 Sf274 CH275.1)
    have V278 : Arv Z h278 b261 k261 .char (4 : Int32) [(.int r_3), (.int r_7), (.int (nar .char r_11)), (.int 0)] (.int 0) := Arv.set Ar278 q278 Sz278 Nn278 Hs278 Gs278 (fits_nar_char _) W278 2 rfl (Nat.le_of_ble_eq_true rfl)
    have Vn278 : Arv Z h278 b261 k261 .char (4 : Int32) [(.int r_3), (.int r_7), (.int r_11), (.int 0)] (.int 0) := by have q := V278; rw [own_nr hok_11] at q; exact q
    have N278 := Fr.snoc X278 N272 g_b261
    have O_278 := O_272.wr W278 g_b261
    refine GoesW.step (B := T278.setTop (mkF m 89 #[.val (.int i0), .val (.int i1), .val (.int i2), .val (.int i3), .val (.int i4), .val (.int 4), .val (.ref b1), .val (.ref b261), .unset, .unset, .unset, .unset, .unset] [])) st278 ?_
    refine GoesW.step (fun _ k => pw_iload X278.here hx (hb hby at_89) rfl _ (pw_iconst X278.here hx (v := (3 : Int32)) (hb hby at_91) rfl _ (pw_icmpNo X278.here hx (hb hby at_92) (tlt (by decide)).2.2.2 _ (pw_aload X278.here hx (hb hby at_95) rfl rfl _ (pw_iconst X278.here hx (v := (3 : Int32)) (hb hby at_97) rfl _ (pw_aload X278.here hx (hb hby at_98) rfl rfl _ k)))))) ?_
    refine GoesW.step (fun _ k => pw_iconst X278.here hx (v := (3 : Int32)) (hb hby at_100) rfl _ k) ?_
    have f282 := (f276.other W278 ne_b1_b261)
    obtain ⟨c283, Ar283, -, Sz283, Nn283, Hs283, -⟩ := id f282
    have hin283 : ¬ ((3 : Int32) < 0 ∨ c283.slots.size ≤ ((3 : Int32)).toNatClampNeg) := inb_of Sz283 ⟨by decide, by decide⟩
    refine GoesW.step (B := T278.setTop (mkF m 102 #[.val (.int i0), .val (.int i1), .val (.int i2), .val (.int i3), .val (.int i4), .val (.int 4), .val (.ref b1), .val (.ref b261), .unset, .unset, .unset, .unset, .unset] [(.int r_15), (.int 3), (.ref b261)])) (X278.caload hx (j := (3 : Int32)) (v := (.int r_15)) (by rw [e278]; exact Ar283.1) (State.isArrayOf_alike hZ.alike Ar283.2.1) Ar283.2.2 hin283 (Has.at Hs283 hin283 rfl) (g := (mkF m 101 #[.val (.int i0), .val (.int i1), .val (.int i2), .val (.int i3), .val (.int i4), .val (.int 4), .val (.ref b1), .val (.ref b261), .unset, .unset, .unset, .unset, .unset] [(.int 3), (.ref b1), (.int 3), (.ref b261)])) rfl rfl (hb hby at_101)) ?_
    obtain ⟨c284, Ar284, q284, Sz284, Nn284, Hs284, Gs284⟩ := id Vn278
    have hin284 : ¬ ((3 : Int32) < 0 ∨ c284.slots.size ≤ ((3 : Int32)).toNatClampNeg) := inb_of Sz284 ⟨by decide, by decide⟩
    obtain ⟨T284, h284, X284, e284, W284, st284⟩ := stC X278 hx hZ e278 Ar284 (j := (3 : Int32)) hin284 (g := (mkF m 102 #[.val (.int i0), .val (.int i1), .val (.int i2), .val (.int i3), .val (.int i4), .val (.int 4), .val (.ref b1), .val (.ref b261), .unset, .unset, .unset, .unset, .unset] [(.int r_15), (.int 3), (.ref b261)])) rfl rfl (hb hby at_102)
    have Sf285 := Safe.wr W284 Sf280 CH281.1 Sf279
    have Sf286 := Safe.wr W284 Sf280 CH281.1 Sf280
    have CH287 := CH281.trans (CHr.wr W284 Sf280 CH281.1)
    have V284 : Arv Z h284 b261 k261 .char (4 : Int32) [(.int r_3), (.int r_7), (.int r_11), (.int (nar .char r_15))] (.int 0) := Arv.set Ar284 q284 Sz284 Nn284 Hs284 Gs284 (fits_nar_char _) W284 3 rfl (Nat.le_of_ble_eq_true rfl)
    have Vn284 : Arv Z h284 b261 k261 .char (4 : Int32) [(.int r_3), (.int r_7), (.int r_11), (.int r_15)] (.int 0) := by have q := V284; rw [own_nr hok_15] at q; exact q
    have N284 := Fr.snoc X284 N278 g_b261
    have O_284 := O_278.wr W284 g_b261
    refine GoesW.step (B := T284.setTop (mkF m 103 #[.val (.int i0), .val (.int i1), .val (.int i2), .val (.int i3), .val (.int i4), .val (.int 4), .val (.ref b1), .val (.ref b261), .unset, .unset, .unset, .unset, .unset] [])) st284 ?_
    obtain ⟨T288, h288, X288, e288, E288, A288, D288, -, st288⟩ := newO X284 hx hZ hown (own_w6 hw) (own_w7 hw) (own_w8 hw) e284 (g := (mkF m 103 #[.val (.int i0), .val (.int i1), .val (.int i2), .val (.int i3), .val (.int i4), .val (.int 4), .val (.ref b1), .val (.ref b261), .unset, .unset, .unset, .unset, .unset] [])) rfl (hb hby at_103) (by decide) (by decide)
    obtain ⟨b288, g288⟩ : ∃ z, z = h284.size := ⟨_, rfl⟩
    rw [← g288] at A288 D288 st288
    have f289 := (f282.other W284 ne_b1_b261)
    have ne_b1_b288 : b1 ≠ b288 := Nat.ne_of_lt (Nat.lt_of_lt_of_le f289.lt (Nat.le_of_eq g288.symm))
    have ne_b261_b288 : b261 ≠ b288 := Nat.ne_of_lt (Nat.lt_of_lt_of_le Vn284.lt (Nat.le_of_eq g288.symm))
    have g_b288 : n0 ≤ b288 := Nat.le_trans (own_z O_284) (Nat.le_of_eq g288.symm)
    have Sf_b288 := Safe.ext E288 CH287.1 (Safe.new (Nat.le_of_eq g288.symm))
    have Sf290 := Safe.ext E288 CH287.1 Sf285
    have Sf291 := Safe.ext E288 CH287.1 Sf286
    have CH292 := CH287.trans (CHr.ext E288 CH287.1)
    have O_288 := O_284.ext E288
    have F288_value : Fld Z h288 b288 "java/lang/String" "value" "[B" .null := D288 (Or.inr (own_w21 hw)) (ty := (.array .byte)) (by decide)
    have F288_coder : Fld Z h288 b288 "java/lang/String" "coder" "B" (.int 0) := D288 (Or.inr (own_w22 hw)) (ty := .byte) (by decide)
    refine GoesW.step (B := T288.setTop (mkF m 106 #[.val (.int i0), .val (.int i1), .val (.int i2), .val (.int i3), .val (.int i4), .val (.int 4), .val (.ref b1), .val (.ref b261), .unset, .unset, .unset, .unset, .unset] [(.ref b288)])) st288 ?_
    refine GoesW.step (fun _ k => pw_dup X288.here hx (hb hby at_106) rfl _ (pw_aload X288.here hx (hb hby at_107) rfl rfl _ k)) ?_
    have f294 := (Vn284.ext E288)
    have f295 := S_COMPACT_STRINGS.ext O_288.2
    obtain ⟨_, _, ⟨T293, L293, k293, n293⟩, -, X293, ⟨Lc293, hQ293, l293, y293, z293⟩, st293⟩ := X288.specialBack hx (y := (⟨"java/lang/String", "<init>", "([C)V"⟩ : MethodName)) rfl hown (mvT hZ (own_w9 hw)) (mvT hZ (own_w10 hw)) (mvT hZ (own_w11 hw)) (by decide) (backOf (W := 1) (rmSI_4 l Z a0 hw [] b288 b261 k261 cs r_3 r_7 r_11 r_15 h288 n0 O_288 A288 g_b288 F288_value F288_coder f294 f295 hcs hok_3 hok_7 hok_11 hok_15) hZ (own_w11 hw) (own_w8 hw) (by decide) (by decide)) (g := (mkF m 109 #[.val (.int i0), .val (.int i1), .val (.int i2), .val (.int i3), .val (.int i4), .val (.int 4), .val (.ref b1), .val (.ref b261), .unset, .unset, .unset, .unset, .unset] [(.ref b261), (.ref b288), (.ref b288)])) rfl (by rw [hml]; rfl) (Steps.refl _) (a := b288) (argsL := [(.ref b261)]) (rest := [(.ref b288)]) (lenOf pd_23 rfl) rfl (by show 2 * 0 + _ ≤ _; exact Nat.le_of_eq rfl) (hb hby at_109) (fun _ _ => ⟨rfl, e288, (by decide : 3 + 1 ≤ _), (by decide : 12 + 4 ≤ _)⟩)
    dsimp only [Pt.U, Pt.locs, Pt.cells, Pt.slots] at X293 l293 y293 z293 st293 hQ293
    subst l293 y293 z293
    obtain ⟨rfl, Nq293, Kp293, Ex293, sv293, sk293, Fsv293, Fsc293, Vsv293⟩ := hQ293
    have Sf296 := Safe.keep Kp293 (sfS Sf_b288 sf0) CH292.1 Sf290
    have Sf297 := Safe.keep Kp293 (sfS Sf_b288 sf0) CH292.1 Sf291
    have Sf298 := Safe.keep Kp293 (sfS Sf_b288 sf0) CH292.1 Sf_b288
    have CH299 := CH292.trans (CHr.keep Kp293 (sfS Sf_b288 sf0) CH292.1)
    have O_293 := O_288.keep Kp293 (allS g_b288 all0)
    have N293 := Fr.app N284 Nq293
    refine GoesW.via (B := T293.setTop (mkF m 112 #[.val (.int i0), .val (.int i1), .val (.int i2), .val (.int i3), .val (.int i4), .val (.int 4), .val (.ref b1), .val (.ref b261), .unset, .unset, .unset, .unset, .unset] [(.ref b288)])) st293 ?_
    have f301 := S_COMPACT_STRINGS.ext O_293.2
    obtain ⟨_, vw300, ⟨T300, L300, k300, n300⟩, -, Xr300, S2300, sz300, ⟨Lc300, hQ300, l300, y300, z300, Hc300⟩, st300⟩ := callSS X293 hx (y := (⟨"com/example/partwright/partwright/reader/HeaderValue", "typeOf", "(Ljava/lang/String;)Ljava/lang/String;"⟩ : MethodName)) hown (mvT hZ (own_w27 hw)) (mvT hZ (own_w28 hw)) (mvT hZ (own_w29 hw)) (mvT hZ (own_w30 hw)) (by decide) (backOfSH (W := 0) (rmTY l Z a0 hw [] b288 sv293 sk293 (4 : Int32) [(own_b r_3), (own_b r_7), (own_b r_11), (own_b r_15)] cs fm T293.heap n0 O_293 FS Ex293 Fsc293 Fsv293 Vsv293 rfl (by decide)) hZ (own_w30 hw) (own_w29 hw) (by decide) (by decide) (own_EW hw) CH299.1) (g := (mkF m 112 #[.val (.int i0), .val (.int i1), .val (.int i2), .val (.int i3), .val (.int i4), .val (.int 4), .val (.ref b1), .val (.ref b261), .unset, .unset, .unset, .unset, .unset] [(.ref b288)])) rfl (by rw [hml]; rfl) (argsL := [(.ref b288)]) (rest := []) (lenOf pd_24 rfl) rfl (by show 2 * 0 + _ ≤ _; exact Nat.le_of_eq rfl) (hb hby at_112) (fun _ _ => ⟨rfl, rfl, (by decide : 4 + 4 ≤ _), (by decide : 16 + 18 ≤ _)⟩)
    dsimp only [Pt.U, Pt.locs, Pt.cells, Pt.slots] at Xr300 S2300 sz300 l300 y300 z300 st300 hQ300 Hc300
    subst l300 y300 z300
    obtain ⟨X300, hS300, hZ300, hown300⟩ := rebS hS0 (by exact (Nat.le_trans (Nat.le_trans (Nat.le_trans (Nat.le_trans (Nat.le_trans (Nat.le_trans (Nat.le_trans (Nat.le_trans (Nat.le_trans (Nat.le_trans (Nat.le_trans (Nat.le_trans (Nat.le_refl _) E1.1) (Nat.le_of_eq W4.size.symm)) (Nat.le_of_eq W8.size.symm)) (Nat.le_of_eq W12.size.symm)) (Nat.le_of_eq W16.size.symm)) E261.1) (Nat.le_of_eq W266.size.symm)) (Nat.le_of_eq W272.size.symm)) (Nat.le_of_eq W278.size.symm)) (Nat.le_of_eq W284.size.symm)) E288.1) Kp293.1)) Xr300 S2300 sz300 hZ hown
    have CHc300 := CH299.trans Hc300
    obtain ⟨nr300, nv300, nk300, nm300, rfl, Nq300, Kp300, hnm300, Er300, Fv300, Fc300, Vr300⟩ := hQ300
    have f303 := ((f289.ext E288).keep Kp293 (ninS ne_b1_b288 nin0))
    have Sf302 := CHr.safe Hc300 f303.lt Sf296
    have f305 := (f294.keep Kp293 (ninS ne_b261_b288 nin0))
    have Sf304 := CHr.safe Hc300 f305.lt Sf297
    have Sf306 := CHr.safe Hc300 Ex293.lt Sf298
    have O_300 := O_293.keep Kp300 all0
    have N300 := Fr.app N293 Nq300
    refine GoesW.via (B := T300.setTop (mkF m 115 #[.val (.int i0), .val (.int i1), .val (.int i2), .val (.int i3), .val (.int i4), .val (.int 4), .val (.ref b1), .val (.ref b261), .unset, .unset, .unset, .unset, .unset] [(.ref nr300)])) st300 ?_
    refine GoesW.step (fun _ k => pw_astore X300.here hx (l' := #[.val (.int i0), .val (.int i1), .val (.int i2), .val (.int i3), .val (.int i4), .val (.int 4), .val (.ref b1), .val (.ref b261), .val (.ref nr300), .unset, .unset, .unset, .unset]) (hb hby at_115) rfl rfl _ (pw_iload X300.here hx (hb hby at_117) rfl _ (pw_istore X300.here hx (l' := #[.val (.int i0), .val (.int i1), .val (.int i2), .val (.int i3), .val (.int i4), .val (.int 4), .val (.ref b1), .val (.ref b261), .val (.ref nr300), .val (.int 4), .unset, .unset, .unset]) (hb hby at_119) rfl _ (pw_iload X300.here hx (hb hby at_121) rfl _ (pw_iconst X300.here hx (v := (3 : Int32)) (hb hby at_123) rfl _ (pw_icmpNo X300.here hx (hb hby at_124) (tlt (by decide)).2.2.2 _ k)))))) ?_
    have J307 : ∀ (ej3 : Int32), ej3 = (if r_15 = (59 : Int32) then (3 : Int32) else (4 : Int32)) → GoesW p e below s (Q0 Z i0 i1 i2 i3 i4 cs fm h0 n0) room_1.cells room_1.slots (T300.setTop (mkF m 139 #[.val (.int i0), .val (.int i1), .val (.int i2), .val (.int i3), .val (.int i4), .val (.int 4), .val (.ref b1), .val (.ref b261), .val (.ref nr300), .val (.int ej3), .unset, .unset, .unset] [])) := by
     intro ej3 hej3
     refine GoesW.step (fun _ k => pw_iload X300.here hx (hb hby at_139) rfl _ (pw_iconst X300.here hx (v := (2 : Int32)) (hb hby at_141) rfl _ (pw_icmpNo X300.here hx (hb hby at_142) (tlt (by decide)).2.2.2 _ k))) ?_
     have J308 : ∀ (ej2 : Int32), ej2 = (if r_11 = (59 : Int32) then (2 : Int32) else ej3) → GoesW p e below s (Q0 Z i0 i1 i2 i3 i4 cs fm h0 n0) room_1.cells room_1.slots (T300.setTop (mkF m 157 #[.val (.int i0), .val (.int i1), .val (.int i2), .val (.int i3), .val (.int i4), .val (.int 4), .val (.ref b1), .val (.ref b261), .val (.ref nr300), .val (.int ej2), .unset, .unset, .unset] [])) := by
      intro ej2 hej2
      refine GoesW.step (fun _ k => pw_iload X300.here hx (hb hby at_157) rfl _ (pw_iconst X300.here hx (v := (1 : Int32)) (hb hby at_159) rfl _ (pw_icmpNo X300.here hx (hb hby at_160) (tlt (by decide)).2.2.2 _ k))) ?_
      have J309 : ∀ (ej1 : Int32), ej1 = (if r_7 = (59 : Int32) then (1 : Int32) else ej2) → GoesW p e below s (Q0 Z i0 i1 i2 i3 i4 cs fm h0 n0) room_1.cells room_1.slots (T300.setTop (mkF m 175 #[.val (.int i0), .val (.int i1), .val (.int i2), .val (.int i3), .val (.int i4), .val (.int 4), .val (.ref b1), .val (.ref b261), .val (.ref nr300), .val (.int ej1), .unset, .unset, .unset] [])) := by
       intro ej1 hej1
       refine GoesW.step (fun _ k => pw_iload X300.here hx (hb hby at_175) rfl _ (pw_ifNo X300.here hx (hb hby at_177) ((if0 _ _).trans (tlt (by decide)).2.2.2) _ k)) ?_
       have J310 : ∀ (ej0 : Int32), ej0 = (if r_3 = (59 : Int32) then (0 : Int32) else ej1) → GoesW p e below s (Q0 Z i0 i1 i2 i3 i4 cs fm h0 n0) room_1.cells room_1.slots (T300.setTop (mkF m 192 #[.val (.int i0), .val (.int i1), .val (.int i2), .val (.int i3), .val (.int i4), .val (.int 4), .val (.ref b1), .val (.ref b261), .val (.ref nr300), .val (.int ej0), .unset, .unset, .unset] [])) := by
        intro ej0 hej0
        have hE : ej0 = own_e4 r_3 r_7 r_11 r_15 := by rw [hej0, hej1, hej2, hej3]; rfl
        obtain ⟨g1, g2, g3, g4, g5, g6, g7⟩ := own_fin4 (c0 := r_3) (c1 := r_7) (c2 := r_11) (c3 := r_15) hok_3 hok_7 hok_11 hok_15
        rw [← hE] at g1 g2 g3 g4 g5 g6 g7
        rw [← hnm300] at g1
        have heb : ej0.toInt ≤ 4 := by rw [hE]; exact own_eb4 r_3 r_7 r_11 r_15
        refine GoesW.step (fun _ k => pw_iload X300.here hx (hb hby at_192) rfl _ (pw_istore X300.here hx (l' := #[.val (.int i0), .val (.int i1), .val (.int i2), .val (.int i3), .val (.int i4), .val (.int 4), .val (.ref b1), .val (.ref b261), .val (.ref nr300), .val (.int ej0), .val (.int ej0), .unset, .unset]) (hb hby at_194) rfl _ k)) ?_
        have J311 : ∀ (lj3 : Int32), lj3 = own_lq (3 : Int32) ej0 r_15 ej0 → GoesW p e below s (Q0 Z i0 i1 i2 i3 i4 cs fm h0 n0) room_1.cells room_1.slots (T300.setTop (mkF m 214 #[.val (.int i0), .val (.int i1), .val (.int i2), .val (.int i3), .val (.int i4), .val (.int 4), .val (.ref b1), .val (.ref b261), .val (.ref nr300), .val (.int ej0), .val (.int lj3), .unset, .unset] [])) := by
         intro lj3 hlj3
         have J312 : ∀ (lj2 : Int32), lj2 = own_lq (2 : Int32) ej0 r_11 lj3 → GoesW p e below s (Q0 Z i0 i1 i2 i3 i4 cs fm h0 n0) room_1.cells room_1.slots (T300.setTop (mkF m 232 #[.val (.int i0), .val (.int i1), .val (.int i2), .val (.int i3), .val (.int i4), .val (.int 4), .val (.ref b1), .val (.ref b261), .val (.ref nr300), .val (.int ej0), .val (.int lj2), .unset, .unset] [])) := by
          intro lj2 hlj2
          have J313 : ∀ (lj1 : Int32), lj1 = own_lq (1 : Int32) ej0 r_7 lj2 → GoesW p e below s (Q0 Z i0 i1 i2 i3 i4 cs fm h0 n0) room_1.cells room_1.slots (T300.setTop (mkF m 250 #[.val (.int i0), .val (.int i1), .val (.int i2), .val (.int i3), .val (.int i4), .val (.int 4), .val (.ref b1), .val (.ref b261), .val (.ref nr300), .val (.int ej0), .val (.int lj1), .unset, .unset] [])) := by
           intro lj1 hlj1
           have J314 : ∀ (lj0 : Int32), lj0 = own_lq (0 : Int32) ej0 r_3 lj1 → GoesW p e below s (Q0 Z i0 i1 i2 i3 i4 cs fm h0 n0) room_1.cells room_1.slots (T300.setTop (mkF m 268 #[.val (.int i0), .val (.int i1), .val (.int i2), .val (.int i3), .val (.int i4), .val (.int 4), .val (.ref b1), .val (.ref b261), .val (.ref nr300), .val (.int ej0), .val (.int lj0), .unset, .unset] [])) := by
            intro lj0 hlj0
            refine GoesW.step (fun _ k => pw_iconst X300.here hx (v := (-1 : Int32)) (hb hby at_268) rfl _ (pw_istore X300.here hx (l' := #[.val (.int i0), .val (.int i1), .val (.int i2), .val (.int i3), .val (.int i4), .val (.int 4), .val (.ref b1), .val (.ref b261), .val (.ref nr300), .val (.int ej0), .val (.int lj0), .val (.int (-1)), .unset]) (hb hby at_269) rfl _ k)) ?_
            have J315 : ∀ (hj0 : Int32), hj0 = own_lq (0 : Int32) ej0 r_3 (-1 : Int32) → GoesW p e below s (Q0 Z i0 i1 i2 i3 i4 cs fm h0 n0) room_1.cells room_1.slots (T300.setTop (mkF m 289 #[.val (.int i0), .val (.int i1), .val (.int i2), .val (.int i3), .val (.int i4), .val (.int 4), .val (.ref b1), .val (.ref b261), .val (.ref nr300), .val (.int ej0), .val (.int lj0), .val (.int hj0), .unset] [])) := by
             intro hj0 hhj0
             have J316 : ∀ (hj1 : Int32), hj1 = own_lq (1 : Int32) ej0 r_7 hj0 → GoesW p e below s (Q0 Z i0 i1 i2 i3 i4 cs fm h0 n0) room_1.cells room_1.slots (T300.setTop (mkF m 307 #[.val (.int i0), .val (.int i1), .val (.int i2), .val (.int i3), .val (.int i4), .val (.int 4), .val (.ref b1), .val (.ref b261), .val (.ref nr300), .val (.int ej0), .val (.int lj0), .val (.int hj1), .unset] [])) := by
              intro hj1 hhj1
              have J317 : ∀ (hj2 : Int32), hj2 = own_lq (2 : Int32) ej0 r_11 hj1 → GoesW p e below s (Q0 Z i0 i1 i2 i3 i4 cs fm h0 n0) room_1.cells room_1.slots (T300.setTop (mkF m 325 #[.val (.int i0), .val (.int i1), .val (.int i2), .val (.int i3), .val (.int i4), .val (.int 4), .val (.ref b1), .val (.ref b261), .val (.ref nr300), .val (.int ej0), .val (.int lj0), .val (.int hj2), .unset] [])) := by
               intro hj2 hhj2
               have J318 : ∀ (hj3 : Int32), hj3 = own_lq (3 : Int32) ej0 r_15 hj2 → GoesW p e below s (Q0 Z i0 i1 i2 i3 i4 cs fm h0 n0) room_1.cells room_1.slots (T300.setTop (mkF m 343 #[.val (.int i0), .val (.int i1), .val (.int i2), .val (.int i3), .val (.int i4), .val (.int 4), .val (.ref b1), .val (.ref b261), .val (.ref nr300), .val (.int ej0), .val (.int lj0), .val (.int hj3), .unset] [])) := by
                intro hj3 hhj3
                have J319 : ∀ (mj : Int32), mj = (if hj3 < lj0 then (0 : Int32) else (hj3 - lj0) + (1 : Int32)) → GoesW p e below s (Q0 Z i0 i1 i2 i3 i4 cs fm h0 n0) room_1.cells room_1.slots (T300.setTop (mkF m 363 #[.val (.int i0), .val (.int i1), .val (.int i2), .val (.int i3), .val (.int i4), .val (.int 4), .val (.ref b1), .val (.ref b261), .val (.ref nr300), .val (.int ej0), .val (.int lj0), .val (.int hj3), .val (.int mj)] [])) := by
                 intro mj hmj
                 rw [← hlj3] at g1 g2 g3 g4 g5
                 rw [← hlj2] at g1 g2 g3 g4 g5
                 rw [← hlj1] at g1 g2 g3 g4 g5
                 rw [← hlj0] at g1 g2 g3 g4 g5
                 rw [← hhj0] at g1 g4 g5
                 rw [← hhj1] at g1 g4 g5
                 rw [← hhj2] at g1 g4 g5
                 rw [← hhj3] at g1 g4 g5
                 rw [← hmj] at g1 g4 g5
                 refine GoesW.step (fun _ k => pw_aload X300.here hx (hb hby at_363) rfl rfl _ k) ?_
                 have f321 := S_COMPACT_STRINGS.ext O_300.2
                 obtain ⟨cq320, kq320, qa320, qb320, qc320⟩ := isOf hZ300 rfl Er300
                 obtain ⟨_, _, ⟨T320, L320, k320, n320⟩, -, X320, ⟨Lc320, hQ320, l320, y320, z320⟩, st320⟩ := X300.virtualBack hx (y := (⟨"java/lang/String", "length", "()I"⟩ : MethodName)) (z := (⟨"java/lang/String", "length", "()I"⟩ : MethodName)) hown300 (mvT hZ300 (own_w79 hw)) (mvT hZ300 (own_w48 hw)) (notFace_of_selects (args := #[]) (mvT hZ300 (own_w50 hw))) (mvT hZ300 (own_w50 hw)) (mvT hZ300 (own_w49 hw)) (by decide) (backOf (W := 0) (rm9 l Z a0 hw [] nr300 nv300 nk300 nm300 (own_sub (own_ys [(own_b r_3), (own_b r_7), (own_b r_11), (own_b r_15)]) (own_lo (own_ys [(own_b r_3), (own_b r_7), (own_b r_11), (own_b r_15)])) nm300) cs T300.heap n0 O_300 f321 hcs Er300 Fc300 Fv300 Vr300) hZ300 (own_w51 hw) (own_w8 hw) (by decide) (by decide)) qa320 qc320 (g := (mkF m 365 #[.val (.int i0), .val (.int i1), .val (.int i2), .val (.int i3), .val (.int i4), .val (.int 4), .val (.ref b1), .val (.ref b261), .val (.ref nr300), .val (.int ej0), .val (.int lj0), .val (.int hj3), .val (.int mj)] [(.ref nr300)])) rfl (by rw [hml]; rfl) (Steps.refl _) (argsL := []) (rest := []) (lenOf pd_13 rfl) rfl (by show 2 * 0 + _ ≤ _; exact Nat.le_of_eq rfl) (hb hby at_365) (fun _ _ => ⟨rfl, rfl, (by decide : 8 + 0 ≤ _), (by decide : 34 + 0 ≤ _)⟩)
                 dsimp only [Pt.U, Pt.locs, Pt.cells, Pt.slots] at X320 l320 y320 z320 st320 hQ320
                 subst l320 y320 z320
                 obtain ⟨rfl, Nq320, eh320⟩ := hQ320
                 have N320 := Fr.app N300 Nq320
                 refine GoesW.via (B := T320.setTop (mkF m 368 #[.val (.int i0), .val (.int i1), .val (.int i2), .val (.int i3), .val (.int i4), .val (.int 4), .val (.ref b1), .val (.ref b261), .val (.ref nr300), .val (.int ej0), .val (.int lj0), .val (.int hj3), .val (.int mj)] [(.int nm300)])) st320 ?_
                 refine GoesW.step (fun _ k => pw_iload X320.here hx (hb hby at_368) rfl _ (pw_icmpYes X320.here hx (pc' := 375) (hb hby at_370) (teq g1).1 (by decide) (by decide) _ (pw_aload X320.here hx (hb hby at_375) rfl rfl _ (pw_aload X320.here hx (hb hby at_377) rfl rfl _ (pw_iload X320.here hx (hb hby at_379) rfl _ (pw_iload X320.here hx (hb hby at_381) rfl _ k)))))) ?_
                 refine GoesW.step (fun _ k => pw_iconst X320.here hx (v := (0 : Int32)) (hb hby at_383) rfl _ k) ?_
                 have f323 := (f303.keep Kp300 nin0)
                 obtain ⟨_, _, ⟨T322, L322, k322, n322⟩, -, X322, ⟨Lc322, hQ322, l322, y322, z322⟩, st322⟩ := Jvm.LawKit.callS X320 hx (y := (⟨"com/example/partwright/partwright/reader/HeaderValueTypeOfPinLaw", "same", "(Ljava/lang/String;[CIII)Z"⟩ : MethodName)) hown300 (mvT hZ300 (own_w80 hw)) (mvT hZ300 (own_w81 hw)) (mvT hZ300 (own_w4 hw)) (mvT hZ300 (own_w82 hw)) (by decide) (backOf (W := 0) (rmAt l Z a0 hw [] nr300 nv300 nk300 nm300 (own_sub (own_ys [(own_b r_3), (own_b r_7), (own_b r_11), (own_b r_15)]) (own_lo (own_ys [(own_b r_3), (own_b r_7), (own_b r_11), (own_b r_15)])) nm300) b1 k1 r_3 r_7 r_11 r_15 (0 : Int32) mj lj0 cs fm T300.heap n0 O_300 FS Er300 Fc300 Fv300 Vr300 f323 (own_hatq g1 g2 g3 g4 g5 g6 g7 (by decide))) hZ300 (own_w82 hw) (own_w4 hw) (by decide) (by decide)) (g := (mkF m 384 #[.val (.int i0), .val (.int i1), .val (.int i2), .val (.int i3), .val (.int i4), .val (.int 4), .val (.ref b1), .val (.ref b261), .val (.ref nr300), .val (.int ej0), .val (.int lj0), .val (.int hj3), .val (.int mj)] [(.int 0), (.int mj), (.int lj0), (.ref b1), (.ref nr300)])) rfl (by rw [hml]; rfl) (argsL := [(.ref nr300), (.ref b1), (.int lj0), (.int mj), (.int 0)]) (rest := []) (lenOf pd_25 rfl) rfl (by show 2 * 0 + _ ≤ _; exact Nat.le_of_eq rfl) (hb hby at_384) (fun _ _ => ⟨rfl, eh320, (by decide : 8 + 0 ≤ _), (by decide : 34 + 0 ≤ _)⟩)
                 dsimp only [Pt.U, Pt.locs, Pt.cells, Pt.slots] at X322 l322 y322 z322 st322 hQ322
                 subst l322 y322 z322
                 obtain ⟨rfl, Nq322, eh322⟩ := hQ322
                 have N322 := Fr.app N320 Nq322
                 refine GoesW.step (B := T322.setTop (mkF m 387 #[.val (.int i0), .val (.int i1), .val (.int i2), .val (.int i3), .val (.int i4), .val (.int 4), .val (.ref b1), .val (.ref b261), .val (.ref nr300), .val (.int ej0), .val (.int lj0), .val (.int hj3), .val (.int mj)] [(.int 1)])) st322 ?_
                 refine GoesW.step (fun _ k => pw_ifNo X322.here hx (hb hby at_387) ((if0 _ _).trans (feq (by decide)).1) _ (pw_aload X322.here hx (hb hby at_390) rfl rfl _ (pw_aload X322.here hx (hb hby at_392) rfl rfl _ (pw_iload X322.here hx (hb hby at_394) rfl _ (pw_iload X322.here hx (hb hby at_396) rfl _ (pw_iconst X322.here hx (v := (1 : Int32)) (hb hby at_398) rfl _ k)))))) ?_
                 obtain ⟨_, _, ⟨T324, L324, k324, n324⟩, -, X324, ⟨Lc324, hQ324, l324, y324, z324⟩, st324⟩ := Jvm.LawKit.callS X322 hx (y := (⟨"com/example/partwright/partwright/reader/HeaderValueTypeOfPinLaw", "same", "(Ljava/lang/String;[CIII)Z"⟩ : MethodName)) hown300 (mvT hZ300 (own_w80 hw)) (mvT hZ300 (own_w81 hw)) (mvT hZ300 (own_w4 hw)) (mvT hZ300 (own_w82 hw)) (by decide) (backOf (W := 0) (rmAt l Z a0 hw [] nr300 nv300 nk300 nm300 (own_sub (own_ys [(own_b r_3), (own_b r_7), (own_b r_11), (own_b r_15)]) (own_lo (own_ys [(own_b r_3), (own_b r_7), (own_b r_11), (own_b r_15)])) nm300) b1 k1 r_3 r_7 r_11 r_15 (1 : Int32) mj lj0 cs fm T300.heap n0 O_300 FS Er300 Fc300 Fv300 Vr300 f323 (own_hatq g1 g2 g3 g4 g5 g6 g7 (by decide))) hZ300 (own_w82 hw) (own_w4 hw) (by decide) (by decide)) (g := (mkF m 399 #[.val (.int i0), .val (.int i1), .val (.int i2), .val (.int i3), .val (.int i4), .val (.int 4), .val (.ref b1), .val (.ref b261), .val (.ref nr300), .val (.int ej0), .val (.int lj0), .val (.int hj3), .val (.int mj)] [(.int 1), (.int mj), (.int lj0), (.ref b1), (.ref nr300)])) rfl (by rw [hml]; rfl) (argsL := [(.ref nr300), (.ref b1), (.int lj0), (.int mj), (.int 1)]) (rest := []) (lenOf pd_25 rfl) rfl (by show 2 * 0 + _ ≤ _; exact Nat.le_of_eq rfl) (hb hby at_399) (fun _ _ => ⟨rfl, eh322, (by decide : 8 + 0 ≤ _), (by decide : 34 + 0 ≤ _)⟩)
                 dsimp only [Pt.U, Pt.locs, Pt.cells, Pt.slots] at X324 l324 y324 z324 st324 hQ324
                 subst l324 y324 z324
                 obtain ⟨rfl, Nq324, eh324⟩ := hQ324
                 have N324 := Fr.app N322 Nq324
                 refine GoesW.step (B := T324.setTop (mkF m 402 #[.val (.int i0), .val (.int i1), .val (.int i2), .val (.int i3), .val (.int i4), .val (.int 4), .val (.ref b1), .val (.ref b261), .val (.ref nr300), .val (.int ej0), .val (.int lj0), .val (.int hj3), .val (.int mj)] [(.int 1)])) st324 ?_
                 refine GoesW.step (fun _ k => pw_ifNo X324.here hx (hb hby at_402) ((if0 _ _).trans (feq (by decide)).1) _ (pw_aload X324.here hx (hb hby at_405) rfl rfl _ (pw_aload X324.here hx (hb hby at_407) rfl rfl _ (pw_iload X324.here hx (hb hby at_409) rfl _ (pw_iload X324.here hx (hb hby at_411) rfl _ (pw_iconst X324.here hx (v := (2 : Int32)) (hb hby at_413) rfl _ k)))))) ?_
                 obtain ⟨_, _, ⟨T325, L325, k325, n325⟩, -, X325, ⟨Lc325, hQ325, l325, y325, z325⟩, st325⟩ := Jvm.LawKit.callS X324 hx (y := (⟨"com/example/partwright/partwright/reader/HeaderValueTypeOfPinLaw", "same", "(Ljava/lang/String;[CIII)Z"⟩ : MethodName)) hown300 (mvT hZ300 (own_w80 hw)) (mvT hZ300 (own_w81 hw)) (mvT hZ300 (own_w4 hw)) (mvT hZ300 (own_w82 hw)) (by decide) (backOf (W := 0) (rmAt l Z a0 hw [] nr300 nv300 nk300 nm300 (own_sub (own_ys [(own_b r_3), (own_b r_7), (own_b r_11), (own_b r_15)]) (own_lo (own_ys [(own_b r_3), (own_b r_7), (own_b r_11), (own_b r_15)])) nm300) b1 k1 r_3 r_7 r_11 r_15 (2 : Int32) mj lj0 cs fm T300.heap n0 O_300 FS Er300 Fc300 Fv300 Vr300 f323 (own_hatq g1 g2 g3 g4 g5 g6 g7 (by decide))) hZ300 (own_w82 hw) (own_w4 hw) (by decide) (by decide)) (g := (mkF m 414 #[.val (.int i0), .val (.int i1), .val (.int i2), .val (.int i3), .val (.int i4), .val (.int 4), .val (.ref b1), .val (.ref b261), .val (.ref nr300), .val (.int ej0), .val (.int lj0), .val (.int hj3), .val (.int mj)] [(.int 2), (.int mj), (.int lj0), (.ref b1), (.ref nr300)])) rfl (by rw [hml]; rfl) (argsL := [(.ref nr300), (.ref b1), (.int lj0), (.int mj), (.int 2)]) (rest := []) (lenOf pd_25 rfl) rfl (by show 2 * 0 + _ ≤ _; exact Nat.le_of_eq rfl) (hb hby at_414) (fun _ _ => ⟨rfl, eh324, (by decide : 8 + 0 ≤ _), (by decide : 34 + 0 ≤ _)⟩)
                 dsimp only [Pt.U, Pt.locs, Pt.cells, Pt.slots] at X325 l325 y325 z325 st325 hQ325
                 subst l325 y325 z325
                 obtain ⟨rfl, Nq325, eh325⟩ := hQ325
                 have N325 := Fr.app N324 Nq325
                 refine GoesW.step (B := T325.setTop (mkF m 417 #[.val (.int i0), .val (.int i1), .val (.int i2), .val (.int i3), .val (.int i4), .val (.int 4), .val (.ref b1), .val (.ref b261), .val (.ref nr300), .val (.int ej0), .val (.int lj0), .val (.int hj3), .val (.int mj)] [(.int 1)])) st325 ?_
                 refine GoesW.step (fun _ k => pw_ifNo X325.here hx (hb hby at_417) ((if0 _ _).trans (feq (by decide)).1) _ (pw_aload X325.here hx (hb hby at_420) rfl rfl _ (pw_aload X325.here hx (hb hby at_422) rfl rfl _ (pw_iload X325.here hx (hb hby at_424) rfl _ (pw_iload X325.here hx (hb hby at_426) rfl _ (pw_iconst X325.here hx (v := (3 : Int32)) (hb hby at_428) rfl _ k)))))) ?_
                 obtain ⟨_, _, ⟨T326, L326, k326, n326⟩, -, X326, ⟨Lc326, hQ326, l326, y326, z326⟩, st326⟩ := Jvm.LawKit.callS X325 hx (y := (⟨"com/example/partwright/partwright/reader/HeaderValueTypeOfPinLaw", "same", "(Ljava/lang/String;[CIII)Z"⟩ : MethodName)) hown300 (mvT hZ300 (own_w80 hw)) (mvT hZ300 (own_w81 hw)) (mvT hZ300 (own_w4 hw)) (mvT hZ300 (own_w82 hw)) (by decide) (backOf (W := 0) (rmAt l Z a0 hw [] nr300 nv300 nk300 nm300 (own_sub (own_ys [(own_b r_3), (own_b r_7), (own_b r_11), (own_b r_15)]) (own_lo (own_ys [(own_b r_3), (own_b r_7), (own_b r_11), (own_b r_15)])) nm300) b1 k1 r_3 r_7 r_11 r_15 (3 : Int32) mj lj0 cs fm T300.heap n0 O_300 FS Er300 Fc300 Fv300 Vr300 f323 (own_hatq g1 g2 g3 g4 g5 g6 g7 (by decide))) hZ300 (own_w82 hw) (own_w4 hw) (by decide) (by decide)) (g := (mkF m 429 #[.val (.int i0), .val (.int i1), .val (.int i2), .val (.int i3), .val (.int i4), .val (.int 4), .val (.ref b1), .val (.ref b261), .val (.ref nr300), .val (.int ej0), .val (.int lj0), .val (.int hj3), .val (.int mj)] [(.int 3), (.int mj), (.int lj0), (.ref b1), (.ref nr300)])) rfl (by rw [hml]; rfl) (argsL := [(.ref nr300), (.ref b1), (.int lj0), (.int mj), (.int 3)]) (rest := []) (lenOf pd_25 rfl) rfl (by show 2 * 0 + _ ≤ _; exact Nat.le_of_eq rfl) (hb hby at_429) (fun _ _ => ⟨rfl, eh325, (by decide : 8 + 0 ≤ _), (by decide : 34 + 0 ≤ _)⟩)
                 dsimp only [Pt.U, Pt.locs, Pt.cells, Pt.slots] at X326 l326 y326 z326 st326 hQ326
                 subst l326 y326 z326
                 obtain ⟨rfl, Nq326, eh326⟩ := hQ326
                 have N326 := Fr.app N325 Nq326
                 refine GoesW.step (B := T326.setTop (mkF m 432 #[.val (.int i0), .val (.int i1), .val (.int i2), .val (.int i3), .val (.int i4), .val (.int 4), .val (.ref b1), .val (.ref b261), .val (.ref nr300), .val (.int ej0), .val (.int lj0), .val (.int hj3), .val (.int mj)] [(.int 1)])) st326 ?_
                 refine GoesW.step (fun _ k => pw_ifNo X326.here hx (hb hby at_432) ((if0 _ _).trans (feq (by decide)).1) _ (pw_iconst X326.here hx (v := (1 : Int32)) (hb hby at_435) rfl _ (pw_goto X326.here hx (pc' := 440) (hb hby at_436) (by decide) (by decide) _ k))) ?_
                 exact GoesW.retN X326 hS300 (Nat.le_refl _) hx eh326 (t := .boolean) Bd.returns (by simp) hlk (hb hby at_440) (by decide) (by decide) (⟨rfl, N326⟩)
                refine GoesW.step (fun _ k => pw_iload X300.here hx (hb hby at_343) rfl _ (pw_iload X300.here hx (hb hby at_345) rfl _ k)) ?_
                by_cases hc347_326 : hj3 < lj0
                · refine GoesW.step (fun _ k => pw_icmpYes X300.here hx (pc' := 360) (hb hby at_347) (tlt hc347_326).1 (by decide) (by decide) _ (pw_iconst X300.here hx (v := (0 : Int32)) (hb hby at_360) rfl _ (pw_istore X300.here hx (l' := #[.val (.int i0), .val (.int i1), .val (.int i2), .val (.int i3), .val (.int i4), .val (.int 4), .val (.ref b1), .val (.ref b261), .val (.ref nr300), .val (.int ej0), .val (.int lj0), .val (.int hj3), .val (.int 0)]) (hb hby at_361) rfl _ k))) ?_
                  exact J319 (0 : Int32) (by rw [if_pos hc347_326])
                · refine GoesW.step (fun _ k => pw_icmpNo X300.here hx (hb hby at_347) (flt hc347_326).1 _ (pw_iload X300.here hx (hb hby at_350) rfl _ (pw_iload X300.here hx (hb hby at_352) rfl _ (pw_isub X300.here hx (hb hby at_354) _ (pw_iconst X300.here hx (v := (1 : Int32)) (hb hby at_355) rfl _ (pw_iadd X300.here hx (hb hby at_356) _ k)))))) ?_
                  refine GoesW.step (fun _ k => pw_goto X300.here hx (pc' := 361) (hb hby at_357) (by decide) (by decide) _ (pw_istore X300.here hx (l' := #[.val (.int i0), .val (.int i1), .val (.int i2), .val (.int i3), .val (.int i4), .val (.int 4), .val (.ref b1), .val (.ref b261), .val (.ref nr300), .val (.int ej0), .val (.int lj0), .val (.int hj3), .val (.int ((hj3 - lj0) + (1 : Int32)))]) (hb hby at_361) rfl _ k)) ?_
                  exact J319 ((hj3 - lj0) + (1 : Int32)) (by rw [if_neg hc347_326])
               refine GoesW.step (fun _ k => pw_iconst X300.here hx (v := (3 : Int32)) (hb hby at_325) rfl _ (pw_iload X300.here hx (hb hby at_326) rfl _ k)) ?_
               by_cases hc328_327 : (3 : Int32) < ej0
               · refine GoesW.step (fun _ k => pw_icmpNo X300.here hx (hb hby at_328) (tlt hc328_327).2.1 _ (pw_aload X300.here hx (hb hby at_331) rfl rfl _ (pw_iconst X300.here hx (v := (3 : Int32)) (hb hby at_333) rfl _ k))) ?_
                 have f329 := (f303.keep Kp300 nin0)
                 obtain ⟨c330, Ar330, -, Sz330, Nn330, Hs330, -⟩ := id f329
                 have hin330 : ¬ ((3 : Int32) < 0 ∨ c330.slots.size ≤ ((3 : Int32)).toNatClampNeg) := inb_of Sz330 ⟨by decide, by decide⟩
                 refine GoesW.step (B := T300.setTop (mkF m 335 #[.val (.int i0), .val (.int i1), .val (.int i2), .val (.int i3), .val (.int i4), .val (.int 4), .val (.ref b1), .val (.ref b261), .val (.ref nr300), .val (.int ej0), .val (.int lj0), .val (.int hj2), .unset] [(.int r_15)])) (X300.caload hx (j := (3 : Int32)) (v := (.int r_15)) (by exact Ar330.1) (State.isArrayOf_alike hZ300.alike Ar330.2.1) Ar330.2.2 hin330 (Has.at Hs330 hin330 rfl) (g := (mkF m 334 #[.val (.int i0), .val (.int i1), .val (.int i2), .val (.int i3), .val (.int i4), .val (.int 4), .val (.ref b1), .val (.ref b261), .val (.ref nr300), .val (.int ej0), .val (.int lj0), .val (.int hj2), .unset] [(.int 3), (.ref b1)])) rfl rfl (hb hby at_334)) ?_
                 refine GoesW.step (fun _ k => pw_bipush X300.here hx (v := (32 : Int32)) (hb hby at_335) rfl _ k) ?_
                 by_cases hc337_330 : (32 : Int32) < r_15
                 · refine GoesW.step (fun _ k => pw_icmpNo X300.here hx (hb hby at_337) (tlt hc337_330).2.2.2 _ (pw_iconst X300.here hx (v := (3 : Int32)) (hb hby at_340) rfl _ (pw_istore X300.here hx (l' := #[.val (.int i0), .val (.int i1), .val (.int i2), .val (.int i3), .val (.int i4), .val (.int 4), .val (.ref b1), .val (.ref b261), .val (.ref nr300), .val (.int ej0), .val (.int lj0), .val (.int 3), .unset]) (hb hby at_341) rfl _ k))) ?_
                   exact J318 (3 : Int32) (by rw [own_lq, if_pos hc328_327, if_pos hc337_330])
                 · refine GoesW.step (fun _ k => pw_icmpYes X300.here hx (pc' := 343) (hb hby at_337) (flt hc337_330).2.2.2 (by decide) (by decide) _ k) ?_
                   exact J318 hj2 (by rw [own_lq, if_pos hc328_327, if_neg hc337_330])
               · refine GoesW.step (fun _ k => pw_icmpYes X300.here hx (pc' := 343) (hb hby at_328) (flt hc328_327).2.1 (by decide) (by decide) _ k) ?_
                 exact J318 hj2 (by rw [own_lq, if_neg hc328_327])
              refine GoesW.step (fun _ k => pw_iconst X300.here hx (v := (2 : Int32)) (hb hby at_307) rfl _ (pw_iload X300.here hx (hb hby at_308) rfl _ k)) ?_
              by_cases hc310_331 : (2 : Int32) < ej0
              · refine GoesW.step (fun _ k => pw_icmpNo X300.here hx (hb hby at_310) (tlt hc310_331).2.1 _ (pw_aload X300.here hx (hb hby at_313) rfl rfl _ (pw_iconst X300.here hx (v := (2 : Int32)) (hb hby at_315) rfl _ k))) ?_
                have f333 := (f303.keep Kp300 nin0)
                obtain ⟨c334, Ar334, -, Sz334, Nn334, Hs334, -⟩ := id f333
                have hin334 : ¬ ((2 : Int32) < 0 ∨ c334.slots.size ≤ ((2 : Int32)).toNatClampNeg) := inb_of Sz334 ⟨by decide, by decide⟩
                refine GoesW.step (B := T300.setTop (mkF m 317 #[.val (.int i0), .val (.int i1), .val (.int i2), .val (.int i3), .val (.int i4), .val (.int 4), .val (.ref b1), .val (.ref b261), .val (.ref nr300), .val (.int ej0), .val (.int lj0), .val (.int hj1), .unset] [(.int r_11)])) (X300.caload hx (j := (2 : Int32)) (v := (.int r_11)) (by exact Ar334.1) (State.isArrayOf_alike hZ300.alike Ar334.2.1) Ar334.2.2 hin334 (Has.at Hs334 hin334 rfl) (g := (mkF m 316 #[.val (.int i0), .val (.int i1), .val (.int i2), .val (.int i3), .val (.int i4), .val (.int 4), .val (.ref b1), .val (.ref b261), .val (.ref nr300), .val (.int ej0), .val (.int lj0), .val (.int hj1), .unset] [(.int 2), (.ref b1)])) rfl rfl (hb hby at_316)) ?_
                refine GoesW.step (fun _ k => pw_bipush X300.here hx (v := (32 : Int32)) (hb hby at_317) rfl _ k) ?_
                by_cases hc319_334 : (32 : Int32) < r_11
                · refine GoesW.step (fun _ k => pw_icmpNo X300.here hx (hb hby at_319) (tlt hc319_334).2.2.2 _ (pw_iconst X300.here hx (v := (2 : Int32)) (hb hby at_322) rfl _ (pw_istore X300.here hx (l' := #[.val (.int i0), .val (.int i1), .val (.int i2), .val (.int i3), .val (.int i4), .val (.int 4), .val (.ref b1), .val (.ref b261), .val (.ref nr300), .val (.int ej0), .val (.int lj0), .val (.int 2), .unset]) (hb hby at_323) rfl _ k))) ?_
                  exact J317 (2 : Int32) (by rw [own_lq, if_pos hc310_331, if_pos hc319_334])
                · refine GoesW.step (fun _ k => pw_icmpYes X300.here hx (pc' := 325) (hb hby at_319) (flt hc319_334).2.2.2 (by decide) (by decide) _ k) ?_
                  exact J317 hj1 (by rw [own_lq, if_pos hc310_331, if_neg hc319_334])
              · refine GoesW.step (fun _ k => pw_icmpYes X300.here hx (pc' := 325) (hb hby at_310) (flt hc310_331).2.1 (by decide) (by decide) _ k) ?_
                exact J317 hj1 (by rw [own_lq, if_neg hc310_331])
             refine GoesW.step (fun _ k => pw_iconst X300.here hx (v := (1 : Int32)) (hb hby at_289) rfl _ (pw_iload X300.here hx (hb hby at_290) rfl _ k)) ?_
             by_cases hc292_335 : (1 : Int32) < ej0
             · refine GoesW.step (fun _ k => pw_icmpNo X300.here hx (hb hby at_292) (tlt hc292_335).2.1 _ (pw_aload X300.here hx (hb hby at_295) rfl rfl _ (pw_iconst X300.here hx (v := (1 : Int32)) (hb hby at_297) rfl _ k))) ?_
               have f337 := (f303.keep Kp300 nin0)
               obtain ⟨c338, Ar338, -, Sz338, Nn338, Hs338, -⟩ := id f337
               have hin338 : ¬ ((1 : Int32) < 0 ∨ c338.slots.size ≤ ((1 : Int32)).toNatClampNeg) := inb_of Sz338 ⟨by decide, by decide⟩
               refine GoesW.step (B := T300.setTop (mkF m 299 #[.val (.int i0), .val (.int i1), .val (.int i2), .val (.int i3), .val (.int i4), .val (.int 4), .val (.ref b1), .val (.ref b261), .val (.ref nr300), .val (.int ej0), .val (.int lj0), .val (.int hj0), .unset] [(.int r_7)])) (X300.caload hx (j := (1 : Int32)) (v := (.int r_7)) (by exact Ar338.1) (State.isArrayOf_alike hZ300.alike Ar338.2.1) Ar338.2.2 hin338 (Has.at Hs338 hin338 rfl) (g := (mkF m 298 #[.val (.int i0), .val (.int i1), .val (.int i2), .val (.int i3), .val (.int i4), .val (.int 4), .val (.ref b1), .val (.ref b261), .val (.ref nr300), .val (.int ej0), .val (.int lj0), .val (.int hj0), .unset] [(.int 1), (.ref b1)])) rfl rfl (hb hby at_298)) ?_
               refine GoesW.step (fun _ k => pw_bipush X300.here hx (v := (32 : Int32)) (hb hby at_299) rfl _ k) ?_
               by_cases hc301_338 : (32 : Int32) < r_7
               · refine GoesW.step (fun _ k => pw_icmpNo X300.here hx (hb hby at_301) (tlt hc301_338).2.2.2 _ (pw_iconst X300.here hx (v := (1 : Int32)) (hb hby at_304) rfl _ (pw_istore X300.here hx (l' := #[.val (.int i0), .val (.int i1), .val (.int i2), .val (.int i3), .val (.int i4), .val (.int 4), .val (.ref b1), .val (.ref b261), .val (.ref nr300), .val (.int ej0), .val (.int lj0), .val (.int 1), .unset]) (hb hby at_305) rfl _ k))) ?_
                 exact J316 (1 : Int32) (by rw [own_lq, if_pos hc292_335, if_pos hc301_338])
               · refine GoesW.step (fun _ k => pw_icmpYes X300.here hx (pc' := 307) (hb hby at_301) (flt hc301_338).2.2.2 (by decide) (by decide) _ k) ?_
                 exact J316 hj0 (by rw [own_lq, if_pos hc292_335, if_neg hc301_338])
             · refine GoesW.step (fun _ k => pw_icmpYes X300.here hx (pc' := 307) (hb hby at_292) (flt hc292_335).2.1 (by decide) (by decide) _ k) ?_
               exact J316 hj0 (by rw [own_lq, if_neg hc292_335])
            refine GoesW.step (fun _ k => pw_iconst X300.here hx (v := (0 : Int32)) (hb hby at_271) rfl _ (pw_iload X300.here hx (hb hby at_272) rfl _ k)) ?_
            by_cases hc274_339 : (0 : Int32) < ej0
            · refine GoesW.step (fun _ k => pw_icmpNo X300.here hx (hb hby at_274) (tlt hc274_339).2.1 _ (pw_aload X300.here hx (hb hby at_277) rfl rfl _ (pw_iconst X300.here hx (v := (0 : Int32)) (hb hby at_279) rfl _ k))) ?_
              have f341 := (f303.keep Kp300 nin0)
              obtain ⟨c342, Ar342, -, Sz342, Nn342, Hs342, -⟩ := id f341
              have hin342 : ¬ ((0 : Int32) < 0 ∨ c342.slots.size ≤ ((0 : Int32)).toNatClampNeg) := inb_of Sz342 ⟨by decide, by decide⟩
              refine GoesW.step (B := T300.setTop (mkF m 281 #[.val (.int i0), .val (.int i1), .val (.int i2), .val (.int i3), .val (.int i4), .val (.int 4), .val (.ref b1), .val (.ref b261), .val (.ref nr300), .val (.int ej0), .val (.int lj0), .val (.int (-1)), .unset] [(.int r_3)])) (X300.caload hx (j := (0 : Int32)) (v := (.int r_3)) (by exact Ar342.1) (State.isArrayOf_alike hZ300.alike Ar342.2.1) Ar342.2.2 hin342 (Has.at Hs342 hin342 rfl) (g := (mkF m 280 #[.val (.int i0), .val (.int i1), .val (.int i2), .val (.int i3), .val (.int i4), .val (.int 4), .val (.ref b1), .val (.ref b261), .val (.ref nr300), .val (.int ej0), .val (.int lj0), .val (.int (-1)), .unset] [(.int 0), (.ref b1)])) rfl rfl (hb hby at_280)) ?_
              refine GoesW.step (fun _ k => pw_bipush X300.here hx (v := (32 : Int32)) (hb hby at_281) rfl _ k) ?_
              by_cases hc283_342 : (32 : Int32) < r_3
              · refine GoesW.step (fun _ k => pw_icmpNo X300.here hx (hb hby at_283) (tlt hc283_342).2.2.2 _ (pw_iconst X300.here hx (v := (0 : Int32)) (hb hby at_286) rfl _ (pw_istore X300.here hx (l' := #[.val (.int i0), .val (.int i1), .val (.int i2), .val (.int i3), .val (.int i4), .val (.int 4), .val (.ref b1), .val (.ref b261), .val (.ref nr300), .val (.int ej0), .val (.int lj0), .val (.int 0), .unset]) (hb hby at_287) rfl _ k))) ?_
                exact J315 (0 : Int32) (by rw [own_lq, if_pos hc274_339, if_pos hc283_342])
              · refine GoesW.step (fun _ k => pw_icmpYes X300.here hx (pc' := 289) (hb hby at_283) (flt hc283_342).2.2.2 (by decide) (by decide) _ k) ?_
                exact J315 (-1 : Int32) (by rw [own_lq, if_pos hc274_339, if_neg hc283_342])
            · refine GoesW.step (fun _ k => pw_icmpYes X300.here hx (pc' := 289) (hb hby at_274) (flt hc274_339).2.1 (by decide) (by decide) _ k) ?_
              exact J315 (-1 : Int32) (by rw [own_lq, if_neg hc274_339])
           refine GoesW.step (fun _ k => pw_iconst X300.here hx (v := (0 : Int32)) (hb hby at_250) rfl _ (pw_iload X300.here hx (hb hby at_251) rfl _ k)) ?_
           by_cases hc253_343 : (0 : Int32) < ej0
           · refine GoesW.step (fun _ k => pw_icmpNo X300.here hx (hb hby at_253) (tlt hc253_343).2.1 _ (pw_aload X300.here hx (hb hby at_256) rfl rfl _ (pw_iconst X300.here hx (v := (0 : Int32)) (hb hby at_258) rfl _ k))) ?_
             have f345 := (f303.keep Kp300 nin0)
             obtain ⟨c346, Ar346, -, Sz346, Nn346, Hs346, -⟩ := id f345
             have hin346 : ¬ ((0 : Int32) < 0 ∨ c346.slots.size ≤ ((0 : Int32)).toNatClampNeg) := inb_of Sz346 ⟨by decide, by decide⟩
             refine GoesW.step (B := T300.setTop (mkF m 260 #[.val (.int i0), .val (.int i1), .val (.int i2), .val (.int i3), .val (.int i4), .val (.int 4), .val (.ref b1), .val (.ref b261), .val (.ref nr300), .val (.int ej0), .val (.int lj1), .unset, .unset] [(.int r_3)])) (X300.caload hx (j := (0 : Int32)) (v := (.int r_3)) (by exact Ar346.1) (State.isArrayOf_alike hZ300.alike Ar346.2.1) Ar346.2.2 hin346 (Has.at Hs346 hin346 rfl) (g := (mkF m 259 #[.val (.int i0), .val (.int i1), .val (.int i2), .val (.int i3), .val (.int i4), .val (.int 4), .val (.ref b1), .val (.ref b261), .val (.ref nr300), .val (.int ej0), .val (.int lj1), .unset, .unset] [(.int 0), (.ref b1)])) rfl rfl (hb hby at_259)) ?_
             refine GoesW.step (fun _ k => pw_bipush X300.here hx (v := (32 : Int32)) (hb hby at_260) rfl _ k) ?_
             by_cases hc262_346 : (32 : Int32) < r_3
             · refine GoesW.step (fun _ k => pw_icmpNo X300.here hx (hb hby at_262) (tlt hc262_346).2.2.2 _ (pw_iconst X300.here hx (v := (0 : Int32)) (hb hby at_265) rfl _ (pw_istore X300.here hx (l' := #[.val (.int i0), .val (.int i1), .val (.int i2), .val (.int i3), .val (.int i4), .val (.int 4), .val (.ref b1), .val (.ref b261), .val (.ref nr300), .val (.int ej0), .val (.int 0), .unset, .unset]) (hb hby at_266) rfl _ k))) ?_
               exact J314 (0 : Int32) (by rw [own_lq, if_pos hc253_343, if_pos hc262_346])
             · refine GoesW.step (fun _ k => pw_icmpYes X300.here hx (pc' := 268) (hb hby at_262) (flt hc262_346).2.2.2 (by decide) (by decide) _ k) ?_
               exact J314 lj1 (by rw [own_lq, if_pos hc253_343, if_neg hc262_346])
           · refine GoesW.step (fun _ k => pw_icmpYes X300.here hx (pc' := 268) (hb hby at_253) (flt hc253_343).2.1 (by decide) (by decide) _ k) ?_
             exact J314 lj1 (by rw [own_lq, if_neg hc253_343])
          refine GoesW.step (fun _ k => pw_iconst X300.here hx (v := (1 : Int32)) (hb hby at_232) rfl _ (pw_iload X300.here hx (hb hby at_233) rfl _ k)) ?_
          by_cases hc235_347 : (1 : Int32) < ej0
          · refine GoesW.step (fun _ k => pw_icmpNo X300.here hx (hb hby at_235) (tlt hc235_347).2.1 _ (pw_aload X300.here hx (hb hby at_238) rfl rfl _ (pw_iconst X300.here hx (v := (1 : Int32)) (hb hby at_240) rfl _ k))) ?_
            have f349 := (f303.keep Kp300 nin0)
            obtain ⟨c350, Ar350, -, Sz350, Nn350, Hs350, -⟩ := id f349
            have hin350 : ¬ ((1 : Int32) < 0 ∨ c350.slots.size ≤ ((1 : Int32)).toNatClampNeg) := inb_of Sz350 ⟨by decide, by decide⟩
            refine GoesW.step (B := T300.setTop (mkF m 242 #[.val (.int i0), .val (.int i1), .val (.int i2), .val (.int i3), .val (.int i4), .val (.int 4), .val (.ref b1), .val (.ref b261), .val (.ref nr300), .val (.int ej0), .val (.int lj2), .unset, .unset] [(.int r_7)])) (X300.caload hx (j := (1 : Int32)) (v := (.int r_7)) (by exact Ar350.1) (State.isArrayOf_alike hZ300.alike Ar350.2.1) Ar350.2.2 hin350 (Has.at Hs350 hin350 rfl) (g := (mkF m 241 #[.val (.int i0), .val (.int i1), .val (.int i2), .val (.int i3), .val (.int i4), .val (.int 4), .val (.ref b1), .val (.ref b261), .val (.ref nr300), .val (.int ej0), .val (.int lj2), .unset, .unset] [(.int 1), (.ref b1)])) rfl rfl (hb hby at_241)) ?_
            refine GoesW.step (fun _ k => pw_bipush X300.here hx (v := (32 : Int32)) (hb hby at_242) rfl _ k) ?_
            by_cases hc244_350 : (32 : Int32) < r_7
            · refine GoesW.step (fun _ k => pw_icmpNo X300.here hx (hb hby at_244) (tlt hc244_350).2.2.2 _ (pw_iconst X300.here hx (v := (1 : Int32)) (hb hby at_247) rfl _ (pw_istore X300.here hx (l' := #[.val (.int i0), .val (.int i1), .val (.int i2), .val (.int i3), .val (.int i4), .val (.int 4), .val (.ref b1), .val (.ref b261), .val (.ref nr300), .val (.int ej0), .val (.int 1), .unset, .unset]) (hb hby at_248) rfl _ k))) ?_
              exact J313 (1 : Int32) (by rw [own_lq, if_pos hc235_347, if_pos hc244_350])
            · refine GoesW.step (fun _ k => pw_icmpYes X300.here hx (pc' := 250) (hb hby at_244) (flt hc244_350).2.2.2 (by decide) (by decide) _ k) ?_
              exact J313 lj2 (by rw [own_lq, if_pos hc235_347, if_neg hc244_350])
          · refine GoesW.step (fun _ k => pw_icmpYes X300.here hx (pc' := 250) (hb hby at_235) (flt hc235_347).2.1 (by decide) (by decide) _ k) ?_
            exact J313 lj2 (by rw [own_lq, if_neg hc235_347])
         refine GoesW.step (fun _ k => pw_iconst X300.here hx (v := (2 : Int32)) (hb hby at_214) rfl _ (pw_iload X300.here hx (hb hby at_215) rfl _ k)) ?_
         by_cases hc217_351 : (2 : Int32) < ej0
         · refine GoesW.step (fun _ k => pw_icmpNo X300.here hx (hb hby at_217) (tlt hc217_351).2.1 _ (pw_aload X300.here hx (hb hby at_220) rfl rfl _ (pw_iconst X300.here hx (v := (2 : Int32)) (hb hby at_222) rfl _ k))) ?_
           have f353 := (f303.keep Kp300 nin0)
           obtain ⟨c354, Ar354, -, Sz354, Nn354, Hs354, -⟩ := id f353
           have hin354 : ¬ ((2 : Int32) < 0 ∨ c354.slots.size ≤ ((2 : Int32)).toNatClampNeg) := inb_of Sz354 ⟨by decide, by decide⟩
           refine GoesW.step (B := T300.setTop (mkF m 224 #[.val (.int i0), .val (.int i1), .val (.int i2), .val (.int i3), .val (.int i4), .val (.int 4), .val (.ref b1), .val (.ref b261), .val (.ref nr300), .val (.int ej0), .val (.int lj3), .unset, .unset] [(.int r_11)])) (X300.caload hx (j := (2 : Int32)) (v := (.int r_11)) (by exact Ar354.1) (State.isArrayOf_alike hZ300.alike Ar354.2.1) Ar354.2.2 hin354 (Has.at Hs354 hin354 rfl) (g := (mkF m 223 #[.val (.int i0), .val (.int i1), .val (.int i2), .val (.int i3), .val (.int i4), .val (.int 4), .val (.ref b1), .val (.ref b261), .val (.ref nr300), .val (.int ej0), .val (.int lj3), .unset, .unset] [(.int 2), (.ref b1)])) rfl rfl (hb hby at_223)) ?_
           refine GoesW.step (fun _ k => pw_bipush X300.here hx (v := (32 : Int32)) (hb hby at_224) rfl _ k) ?_
           by_cases hc226_354 : (32 : Int32) < r_11
           · refine GoesW.step (fun _ k => pw_icmpNo X300.here hx (hb hby at_226) (tlt hc226_354).2.2.2 _ (pw_iconst X300.here hx (v := (2 : Int32)) (hb hby at_229) rfl _ (pw_istore X300.here hx (l' := #[.val (.int i0), .val (.int i1), .val (.int i2), .val (.int i3), .val (.int i4), .val (.int 4), .val (.ref b1), .val (.ref b261), .val (.ref nr300), .val (.int ej0), .val (.int 2), .unset, .unset]) (hb hby at_230) rfl _ k))) ?_
             exact J312 (2 : Int32) (by rw [own_lq, if_pos hc217_351, if_pos hc226_354])
           · refine GoesW.step (fun _ k => pw_icmpYes X300.here hx (pc' := 232) (hb hby at_226) (flt hc226_354).2.2.2 (by decide) (by decide) _ k) ?_
             exact J312 lj3 (by rw [own_lq, if_pos hc217_351, if_neg hc226_354])
         · refine GoesW.step (fun _ k => pw_icmpYes X300.here hx (pc' := 232) (hb hby at_217) (flt hc217_351).2.1 (by decide) (by decide) _ k) ?_
           exact J312 lj3 (by rw [own_lq, if_neg hc217_351])
        refine GoesW.step (fun _ k => pw_iconst X300.here hx (v := (3 : Int32)) (hb hby at_196) rfl _ (pw_iload X300.here hx (hb hby at_197) rfl _ k)) ?_
        by_cases hc199_355 : (3 : Int32) < ej0
        · refine GoesW.step (fun _ k => pw_icmpNo X300.here hx (hb hby at_199) (tlt hc199_355).2.1 _ (pw_aload X300.here hx (hb hby at_202) rfl rfl _ (pw_iconst X300.here hx (v := (3 : Int32)) (hb hby at_204) rfl _ k))) ?_
          have f357 := (f303.keep Kp300 nin0)
          obtain ⟨c358, Ar358, -, Sz358, Nn358, Hs358, -⟩ := id f357
          have hin358 : ¬ ((3 : Int32) < 0 ∨ c358.slots.size ≤ ((3 : Int32)).toNatClampNeg) := inb_of Sz358 ⟨by decide, by decide⟩
          refine GoesW.step (B := T300.setTop (mkF m 206 #[.val (.int i0), .val (.int i1), .val (.int i2), .val (.int i3), .val (.int i4), .val (.int 4), .val (.ref b1), .val (.ref b261), .val (.ref nr300), .val (.int ej0), .val (.int ej0), .unset, .unset] [(.int r_15)])) (X300.caload hx (j := (3 : Int32)) (v := (.int r_15)) (by exact Ar358.1) (State.isArrayOf_alike hZ300.alike Ar358.2.1) Ar358.2.2 hin358 (Has.at Hs358 hin358 rfl) (g := (mkF m 205 #[.val (.int i0), .val (.int i1), .val (.int i2), .val (.int i3), .val (.int i4), .val (.int 4), .val (.ref b1), .val (.ref b261), .val (.ref nr300), .val (.int ej0), .val (.int ej0), .unset, .unset] [(.int 3), (.ref b1)])) rfl rfl (hb hby at_205)) ?_
          refine GoesW.step (fun _ k => pw_bipush X300.here hx (v := (32 : Int32)) (hb hby at_206) rfl _ k) ?_
          by_cases hc208_358 : (32 : Int32) < r_15
          · refine GoesW.step (fun _ k => pw_icmpNo X300.here hx (hb hby at_208) (tlt hc208_358).2.2.2 _ (pw_iconst X300.here hx (v := (3 : Int32)) (hb hby at_211) rfl _ (pw_istore X300.here hx (l' := #[.val (.int i0), .val (.int i1), .val (.int i2), .val (.int i3), .val (.int i4), .val (.int 4), .val (.ref b1), .val (.ref b261), .val (.ref nr300), .val (.int ej0), .val (.int 3), .unset, .unset]) (hb hby at_212) rfl _ k))) ?_
            exact J311 (3 : Int32) (by rw [own_lq, if_pos hc199_355, if_pos hc208_358])
          · refine GoesW.step (fun _ k => pw_icmpYes X300.here hx (pc' := 214) (hb hby at_208) (flt hc208_358).2.2.2 (by decide) (by decide) _ k) ?_
            exact J311 ej0 (by rw [own_lq, if_pos hc199_355, if_neg hc208_358])
        · refine GoesW.step (fun _ k => pw_icmpYes X300.here hx (pc' := 214) (hb hby at_199) (flt hc199_355).2.1 (by decide) (by decide) _ k) ?_
          exact J311 ej0 (by rw [own_lq, if_neg hc199_355])
       refine GoesW.step (fun _ k => pw_aload X300.here hx (hb hby at_180) rfl rfl _ (pw_iconst X300.here hx (v := (0 : Int32)) (hb hby at_182) rfl _ k)) ?_
       have f360 := (f303.keep Kp300 nin0)
       obtain ⟨c361, Ar361, -, Sz361, Nn361, Hs361, -⟩ := id f360
       have hin361 : ¬ ((0 : Int32) < 0 ∨ c361.slots.size ≤ ((0 : Int32)).toNatClampNeg) := inb_of Sz361 ⟨by decide, by decide⟩
       refine GoesW.step (B := T300.setTop (mkF m 184 #[.val (.int i0), .val (.int i1), .val (.int i2), .val (.int i3), .val (.int i4), .val (.int 4), .val (.ref b1), .val (.ref b261), .val (.ref nr300), .val (.int ej1), .unset, .unset, .unset] [(.int r_3)])) (X300.caload hx (j := (0 : Int32)) (v := (.int r_3)) (by exact Ar361.1) (State.isArrayOf_alike hZ300.alike Ar361.2.1) Ar361.2.2 hin361 (Has.at Hs361 hin361 rfl) (g := (mkF m 183 #[.val (.int i0), .val (.int i1), .val (.int i2), .val (.int i3), .val (.int i4), .val (.int 4), .val (.ref b1), .val (.ref b261), .val (.ref nr300), .val (.int ej1), .unset, .unset, .unset] [(.int 0), (.ref b1)])) rfl rfl (hb hby at_183)) ?_
       refine GoesW.step (fun _ k => pw_bipush X300.here hx (v := (59 : Int32)) (hb hby at_184) rfl _ k) ?_
       by_cases hc186_361 : r_3 = (59 : Int32)
       · refine GoesW.step (fun _ k => pw_icmpNo X300.here hx (hb hby at_186) (teq hc186_361).2 _ (pw_iconst X300.here hx (v := (0 : Int32)) (hb hby at_189) rfl _ (pw_istore X300.here hx (l' := #[.val (.int i0), .val (.int i1), .val (.int i2), .val (.int i3), .val (.int i4), .val (.int 4), .val (.ref b1), .val (.ref b261), .val (.ref nr300), .val (.int 0), .unset, .unset, .unset]) (hb hby at_190) rfl _ k))) ?_
         exact J310 (0 : Int32) (by rw [if_pos hc186_361])
       · refine GoesW.step (fun _ k => pw_icmpYes X300.here hx (pc' := 192) (hb hby at_186) (feq hc186_361).2 (by decide) (by decide) _ k) ?_
         exact J310 ej1 (by rw [if_neg hc186_361])
      refine GoesW.step (fun _ k => pw_aload X300.here hx (hb hby at_163) rfl rfl _ (pw_iconst X300.here hx (v := (1 : Int32)) (hb hby at_165) rfl _ k)) ?_
      have f363 := (f303.keep Kp300 nin0)
      obtain ⟨c364, Ar364, -, Sz364, Nn364, Hs364, -⟩ := id f363
      have hin364 : ¬ ((1 : Int32) < 0 ∨ c364.slots.size ≤ ((1 : Int32)).toNatClampNeg) := inb_of Sz364 ⟨by decide, by decide⟩
      refine GoesW.step (B := T300.setTop (mkF m 167 #[.val (.int i0), .val (.int i1), .val (.int i2), .val (.int i3), .val (.int i4), .val (.int 4), .val (.ref b1), .val (.ref b261), .val (.ref nr300), .val (.int ej2), .unset, .unset, .unset] [(.int r_7)])) (X300.caload hx (j := (1 : Int32)) (v := (.int r_7)) (by exact Ar364.1) (State.isArrayOf_alike hZ300.alike Ar364.2.1) Ar364.2.2 hin364 (Has.at Hs364 hin364 rfl) (g := (mkF m 166 #[.val (.int i0), .val (.int i1), .val (.int i2), .val (.int i3), .val (.int i4), .val (.int 4), .val (.ref b1), .val (.ref b261), .val (.ref nr300), .val (.int ej2), .unset, .unset, .unset] [(.int 1), (.ref b1)])) rfl rfl (hb hby at_166)) ?_
      refine GoesW.step (fun _ k => pw_bipush X300.here hx (v := (59 : Int32)) (hb hby at_167) rfl _ k) ?_
      by_cases hc169_364 : r_7 = (59 : Int32)
      · refine GoesW.step (fun _ k => pw_icmpNo X300.here hx (hb hby at_169) (teq hc169_364).2 _ (pw_iconst X300.here hx (v := (1 : Int32)) (hb hby at_172) rfl _ (pw_istore X300.here hx (l' := #[.val (.int i0), .val (.int i1), .val (.int i2), .val (.int i3), .val (.int i4), .val (.int 4), .val (.ref b1), .val (.ref b261), .val (.ref nr300), .val (.int 1), .unset, .unset, .unset]) (hb hby at_173) rfl _ k))) ?_
        exact J309 (1 : Int32) (by rw [if_pos hc169_364])
      · refine GoesW.step (fun _ k => pw_icmpYes X300.here hx (pc' := 175) (hb hby at_169) (feq hc169_364).2 (by decide) (by decide) _ k) ?_
        exact J309 ej2 (by rw [if_neg hc169_364])
     refine GoesW.step (fun _ k => pw_aload X300.here hx (hb hby at_145) rfl rfl _ (pw_iconst X300.here hx (v := (2 : Int32)) (hb hby at_147) rfl _ k)) ?_
     have f366 := (f303.keep Kp300 nin0)
     obtain ⟨c367, Ar367, -, Sz367, Nn367, Hs367, -⟩ := id f366
     have hin367 : ¬ ((2 : Int32) < 0 ∨ c367.slots.size ≤ ((2 : Int32)).toNatClampNeg) := inb_of Sz367 ⟨by decide, by decide⟩
     refine GoesW.step (B := T300.setTop (mkF m 149 #[.val (.int i0), .val (.int i1), .val (.int i2), .val (.int i3), .val (.int i4), .val (.int 4), .val (.ref b1), .val (.ref b261), .val (.ref nr300), .val (.int ej3), .unset, .unset, .unset] [(.int r_11)])) (X300.caload hx (j := (2 : Int32)) (v := (.int r_11)) (by exact Ar367.1) (State.isArrayOf_alike hZ300.alike Ar367.2.1) Ar367.2.2 hin367 (Has.at Hs367 hin367 rfl) (g := (mkF m 148 #[.val (.int i0), .val (.int i1), .val (.int i2), .val (.int i3), .val (.int i4), .val (.int 4), .val (.ref b1), .val (.ref b261), .val (.ref nr300), .val (.int ej3), .unset, .unset, .unset] [(.int 2), (.ref b1)])) rfl rfl (hb hby at_148)) ?_
     refine GoesW.step (fun _ k => pw_bipush X300.here hx (v := (59 : Int32)) (hb hby at_149) rfl _ k) ?_
     by_cases hc151_367 : r_11 = (59 : Int32)
     · refine GoesW.step (fun _ k => pw_icmpNo X300.here hx (hb hby at_151) (teq hc151_367).2 _ (pw_iconst X300.here hx (v := (2 : Int32)) (hb hby at_154) rfl _ (pw_istore X300.here hx (l' := #[.val (.int i0), .val (.int i1), .val (.int i2), .val (.int i3), .val (.int i4), .val (.int 4), .val (.ref b1), .val (.ref b261), .val (.ref nr300), .val (.int 2), .unset, .unset, .unset]) (hb hby at_155) rfl _ k))) ?_
       exact J308 (2 : Int32) (by rw [if_pos hc151_367])
     · refine GoesW.step (fun _ k => pw_icmpYes X300.here hx (pc' := 157) (hb hby at_151) (feq hc151_367).2 (by decide) (by decide) _ k) ?_
       exact J308 ej3 (by rw [if_neg hc151_367])
    refine GoesW.step (fun _ k => pw_aload X300.here hx (hb hby at_127) rfl rfl _ (pw_iconst X300.here hx (v := (3 : Int32)) (hb hby at_129) rfl _ k)) ?_
    have f369 := (f303.keep Kp300 nin0)
    obtain ⟨c370, Ar370, -, Sz370, Nn370, Hs370, -⟩ := id f369
    have hin370 : ¬ ((3 : Int32) < 0 ∨ c370.slots.size ≤ ((3 : Int32)).toNatClampNeg) := inb_of Sz370 ⟨by decide, by decide⟩
    refine GoesW.step (B := T300.setTop (mkF m 131 #[.val (.int i0), .val (.int i1), .val (.int i2), .val (.int i3), .val (.int i4), .val (.int 4), .val (.ref b1), .val (.ref b261), .val (.ref nr300), .val (.int 4), .unset, .unset, .unset] [(.int r_15)])) (X300.caload hx (j := (3 : Int32)) (v := (.int r_15)) (by exact Ar370.1) (State.isArrayOf_alike hZ300.alike Ar370.2.1) Ar370.2.2 hin370 (Has.at Hs370 hin370 rfl) (g := (mkF m 130 #[.val (.int i0), .val (.int i1), .val (.int i2), .val (.int i3), .val (.int i4), .val (.int 4), .val (.ref b1), .val (.ref b261), .val (.ref nr300), .val (.int 4), .unset, .unset, .unset] [(.int 3), (.ref b1)])) rfl rfl (hb hby at_130)) ?_
    refine GoesW.step (fun _ k => pw_bipush X300.here hx (v := (59 : Int32)) (hb hby at_131) rfl _ k) ?_
    by_cases hc133_370 : r_15 = (59 : Int32)
    · refine GoesW.step (fun _ k => pw_icmpNo X300.here hx (hb hby at_133) (teq hc133_370).2 _ (pw_iconst X300.here hx (v := (3 : Int32)) (hb hby at_136) rfl _ (pw_istore X300.here hx (l' := #[.val (.int i0), .val (.int i1), .val (.int i2), .val (.int i3), .val (.int i4), .val (.int 4), .val (.ref b1), .val (.ref b261), .val (.ref nr300), .val (.int 3), .unset, .unset, .unset]) (hb hby at_137) rfl _ k))) ?_
      exact J307 (3 : Int32) (by rw [if_pos hc133_370])
    · refine GoesW.step (fun _ k => pw_icmpYes X300.here hx (pc' := 139) (hb hby at_133) (feq hc133_370).2 (by decide) (by decide) _ k) ?_
      exact J307 (4 : Int32) (by rw [if_neg hc133_370])
set_option maxRecDepth 65536 in
set_option maxHeartbeats 40000000 in
theorem comes_1 {Post : Tables → Env → Array Value → State → Outcome → State → Prop} (hpost : ∀ tb e args s v u, (limb_1_1.after args s (.returned v) u = true ∧ limb_1_2.after args s (.returned v) u = true ∧ True) → ReturnedEndW s (.returned v) u (Jvm.fieldLocs frame_1_writes args s ++ Jvm.arrayLocs frame_1_arrays args s ++ Jvm.staticLocs frame_1_statics s) 32 2240 → Post tb e args s (.returned v) u) :
    ArmFor flags0 classFile x code maxLocals ret World_1 tables_1 room_1 Calls_1 rest_1 Pre_1 Post := by
  intro l hfl _ _ p e ha hc hk s m args below hf hA hF happ hP
  obtain ⟨hcalls, hrest, hpre⟩ := hP
  obtain ⟨-, -, -, hnamed, -, -, -, hat⟩ := (Spec.applies_iff hf).mp happ
  obtain ⟨hg, hn⟩ := and_e (Cond.before_iff.mp (show (Jvm.Cond.and given_1 narrow_1).before args s = true from hpre))
  obtain ⟨hcount, hg⟩ := and_e hg
  obtain ⟨w0, w1, w2, w3, w4, rfl⟩ : ∃ w0 w1 w2 w3 w4 : Value, args = #[w0, w1, w2, w3, w4] := by
    have hs : args.size = 5 := by simpa [Cond.value, given_1] using hcount
    obtain ⟨L⟩ := args
    match L, hs with
    | [w0, w1, w2, w3, w4], _ => exact ⟨w0, w1, w2, w3, w4, rfl⟩
  have hw := fun d (hd : d ∈ tables_1) => atoms_spec (ws := Jvm.Cond.code x code maxLocals ret :: tables_1) hat d (List.mem_cons_of_mem _ hd)
  have hfit : Fit s := fun {y c} hc i hi => by
    obtain ⟨ha, rfl⟩ := Array.getElem?_eq_some_iff.mp hc
    have q := List.all_eq_true.mp ((Array.all_eq_true_iff_forall_mem.mp hF) _ (Array.getElem_mem ha)) i (List.mem_range.mpr hi)
    simpa [Array.getElem?_eq_getElem hi] using q
  obtain ⟨hi0, hg0⟩ := and_e hg
  obtain ⟨i0, ei0⟩ := is_v hi0
  obtain rfl : w0 = (.int i0) := Option.some.inj ei0
  obtain ⟨hi1, hg1⟩ := and_e hg0
  obtain ⟨i1, ei1⟩ := is_v hi1
  obtain rfl : w1 = (.int i1) := Option.some.inj ei1
  obtain ⟨hi2, hg2⟩ := and_e hg1
  obtain ⟨i2, ei2⟩ := is_v hi2
  obtain rfl : w2 = (.int i2) := Option.some.inj ei2
  obtain ⟨hi3, hg3⟩ := and_e hg2
  obtain ⟨i3, ei3⟩ := is_v hi3
  obtain rfl : w3 = (.int i3) := Option.some.inj ei3
  obtain ⟨i4, ei4⟩ := is_v hg3
  obtain rfl : w4 = (.int i4) := Option.some.inj ei4
  obtain ⟨hsets, hown0⟩ := atoms_of _ (rest_1_c_eq ▸ (show rest_1_c.before _ s = true from hrest))
  obtain ⟨cs, ecs⟩ := is_v (Cond.before_iff.mp (hsets _ (List.mem_of_getElem? (i := 1) rfl)))
  have S_COMPACT_STRINGS := Sta.start ecs (Or.inl (hsets _ (List.mem_of_getElem? (i := 0) rfl)))
  have hcs : ¬ cs = (0 : Int32) := fun q => by
    have q2 := not_v (Cond.before_iff.mp (hsets _ (List.mem_of_getElem? (i := 2) rfl)))
    simp [Jvm.Cond.value, ecs, Term.int_eval, q] at q2
  have hcw : Jvm.Lit.compactW.before _ s = true := (hsets _ (List.mem_of_getElem? (i := 2) rfl))
  obtain ⟨fm, efm, hfm⟩ := own_isRef (Cond.before_iff.mp (hsets _ (List.mem_of_getElem? (i := 8) rfl)))
  have S_fm := Sta.start efm (Or.inl (hsets _ (List.mem_of_getElem? (i := 7) rfl)))
  have FS : OwnSt s cs fm := ⟨S_COMPACT_STRINGS, hcs, S_fm, hfm⟩
  have hCHs : ∀ p ∈ own_EL, Jvm.Lit.constHeld s p.1 p.2 := fun p hp => by
    simp only [own_EL, List.mem_cons, List.not_mem_nil, or_false] at hp
    rcases hp with rfl | rfl
    · exact hcalls.1 _ (List.mem_of_getElem? (i := 0) rfl)
    · exact hcalls.1 _ (List.mem_of_getElem? (i := 1) rfl)
  have hH : CHv s own_EL s.vm s.heap := CHv.start (own_EW hw) hCHs hcw (own_w20 hw) (own_w7 hw)
  obtain ⟨n, o, h1, h2, h3, _, L, rfl, ⟨rfl, N⟩, hq⟩ := rm0 l s _ hw tables_1 i0 i1 i2 i3 i4 cs fm s.heap s.heap.size (Old.start s) FS p e ha hc hk s m _ below hf ((Spec.applies_iff_loose hf).mp happ).1 ⟨rfl, State.Warmed39.refl s, rfl, hH⟩ trivial
  refine ⟨n, _, h1, h2, h3, hpost _ _ _ _ _ _ ⟨Cond.after_iff.mpr rfl, Cond.after_iff.mpr (eq_i res_at (Term.int_eval (1)) rfl), trivial⟩ ⟨hq.1, hq.2.1, hq.2.2.1, (hq.2.2.2.sift fun y hy => Or.inr (N y hy)).mono (by decide) (by decide)⟩⟩
theorem main_1_1 : Claimed_1_1 := comes_1 fun _ _ _ _ _ _ h hF => ⟨h.1, hF⟩
theorem main_1_2 : Claimed_1_2 := comes_1 fun _ _ _ _ _ _ h hF => ⟨h.2.1, hF⟩
end Jvm.Pilot.@@N@@
namespace Jvm.Pilot.@@N@@
open Jvm Jvm.ClassFile Sem Op Lib Jvm.Free Jvm.Stand Jvm.Pilot.@@N@@.Jvm.D
/-! MADE BY PROGRAM (witnessworld.py) out of the Statement's table words and the real class files: 23 classes; the members and pool entries that the words name. The judged class is class 1, her method 3. -/
namespace start1
open Jvm.ClassFile
def u (s : String) : CpInfo := .utf8 (stringToUtf16 s)
/-- a pool by its gaps: so many unusable entries, then the entry; so many at the end -/
def gap : Nat → List CpInfo → List CpInfo
  | 0, r => r
  | n + 1, r => .unusable :: gap n r
def poolList (es : List (Nat × CpInfo)) (last : Nat) : List CpInfo := es.foldr (fun e r => gap e.1 (e.2 :: r)) (gap last [])
def pool (es : List (Nat × CpInfo)) (last : Nat) : Array CpInfo := ⟨poolList es last⟩
def fileOf (pool : Array CpInfo) (this : Nat) (attrs : Array Attribute := #[]) (ms : Array MethodInfo := #[]) (fl : Nat := 33) (sup : Nat := 0) (ifs : Array Nat := #[]) (fds : Array FieldInfo := #[]) : ClassFile where
  minorVersion := 0
  majorVersion := 65
  constantPool := pool
  accessFlags := fl
  thisClass := this
  superClass := sup
  interfaces := ifs
  fields := fds
  methods := ms
  attributes := attrs
def plain (name : String) (sup : Option ClassId) : Class where
  name := name
  kind := .ordinary
  loader := none
  accessFlags := 33
  super := sup
  interfaces := #[]
  cf := none
  fields := #[]
  methods := #[]
  instanceTypes := #[]
  staticTypes := #[]
  resolved := #[]
  callSites := []
  init := .initialized
  statics := none
  mirror := none

def pool0 : Array CpInfo := pool [(5, u "<init>"), (0, u "()V"), (1, .class_ 10), (1, u "java/lang/Object")] 113

def k0c0 : Code := { maxStack := 0, maxLocals := 1, code := object_method_1_code, exceptionTable := #[], attributes := #[] }
def k0m0 : Method := { name := "<init>", desc := "()V", sig := { parameters := [], returnType := none }, accessFlags := 1, code := some k0c0 }
/-- java/lang/Object -/
def k0 : Class := { plain "java/lang/Object" none with
  accessFlags := 33
  interfaces := #[]
  cf := some (fileOf pool0 8 #[] #[{ accessFlags := 1, nameIndex := 5, descriptorIndex := 6, attributes := #[] }] 33 0 #[] #[])
  fields := #[]
  methods := #[k0m0]
  instanceTypes := #[]
  staticTypes := #[]
  resolved := Array.replicate 124 none
  statics := none }

def pool1 : Array CpInfo := pool [(2, .class_ 4), (1, u "java/lang/Object"), (0, u "<init>"), (0, u "()V"), (0, .methodref 8 9), (0, .class_ 10), (0, .nameAndType 11 12), (0, u "java/lang/String"), (0, u "charAt"), (0, u "(I)C"), (0, .integer 2147483647), (0, .methodref 15 16), (0, .class_ 17), (0, .nameAndType 18 12), (0, u "com/example/partwright/partwright/reader/HeaderValueTypeOfPinLaw"), (0, u "draw"), (0, .methodref 8 20), (0, .nameAndType 5 21), (0, u "([C)V"), (0, .methodref 23 24), (0, .class_ 25), (0, .nameAndType 26 27), (0, u "com/example/partwright/partwright/reader/HeaderValue"), (0, u "typeOf"), (0, u "(Ljava/lang/String;)Ljava/lang/String;"), (0, .methodref 8 29), (0, .nameAndType 30 31), (0, u "length"), (0, u "()I"), (0, .methodref 15 33), (0, .nameAndType 34 35), (0, u "same"), (0, u "(Ljava/lang/String;[CIII)Z"), (3, u "law"), (0, u "(IIIII)Z")] 4

def k1m0 : Method := { name := "<init>", desc := "()V", sig := { parameters := [], returnType := none }, accessFlags := 2, code := none }
def k1c1 : Code := { maxStack := 2, maxLocals := 3, code := method_2_code, exceptionTable := #[], attributes := #[] }
def k1m1 : Method := { name := "draw", desc := "(I)C", sig := { parameters := [.int], returnType := some .char }, accessFlags := 10, code := some k1c1 }
def k1c2 : Code := { maxStack := 4, maxLocals := 5, code := method_3_code, exceptionTable := #[], attributes := #[] }
def k1m2 : Method := { name := "same", desc := "(Ljava/lang/String;[CIII)Z", sig := { parameters := [(.object "java/lang/String"), (.array .char), .int, .int, .int], returnType := some .boolean }, accessFlags := 10, code := some k1c2 }
def k1c3 : Code := { maxStack := 5, maxLocals := 13, code := code, exceptionTable := #[], attributes := #[] }
def k1m3 : Method := { name := "law", desc := "(IIIII)Z", sig := { parameters := [.int, .int, .int, .int, .int], returnType := some .boolean }, accessFlags := 9, code := some k1c3 }
/-- com/example/partwright/partwright/reader/HeaderValueTypeOfPinLaw -/
def k1 : Class := { plain "com/example/partwright/partwright/reader/HeaderValueTypeOfPinLaw" (some 0) with
  accessFlags := 49
  interfaces := #[]
  cf := some (fileOf pool1 15 #[] #[{ accessFlags := 2, nameIndex := 5, descriptorIndex := 6, attributes := #[] }, { accessFlags := 10, nameIndex := 18, descriptorIndex := 12, attributes := #[] }, { accessFlags := 10, nameIndex := 34, descriptorIndex := 35, attributes := #[] }, { accessFlags := 9, nameIndex := 39, descriptorIndex := 40, attributes := #[] }] 49 2 #[] #[])
  fields := #[]
  methods := #[k1m0, k1m1, k1m2, k1m3]
  instanceTypes := #[]
  staticTypes := #[]
  resolved := Array.replicate 45 none
  statics := none }

def pool2 : Array CpInfo := pool [(1, .class_ 2), (0, u "java/io/Serializable"), (0, .class_ 4), (0, u "java/lang/Object")] 2

/-- java/io/Serializable -/
def k2 : Class := { plain "java/io/Serializable" (some 0) with
  accessFlags := 1537
  interfaces := #[]
  cf := some (fileOf pool2 1 #[] #[] 1537 3 #[] #[])
  fields := #[]
  methods := #[]
  instanceTypes := #[]
  staticTypes := #[]
  resolved := Array.replicate 7 none
  statics := none }

def pool3 : Array CpInfo := pool [(1, .class_ 2), (0, u "java/lang/Comparable"), (0, .class_ 4), (0, u "java/lang/Object")] 7

/-- java/lang/Comparable -/
def k3 : Class := { plain "java/lang/Comparable" (some 0) with
  accessFlags := 1537
  interfaces := #[]
  cf := some (fileOf pool3 1 #[] #[] 1537 3 #[] #[])
  fields := #[]
  methods := #[]
  instanceTypes := #[]
  staticTypes := #[]
  resolved := Array.replicate 12 none
  statics := none }

def pool4 : Array CpInfo := pool [(2, .class_ 4), (1, u "java/lang/CharSequence"), (42, .class_ 48), (0, u "java/lang/CharSequence$1CodePointIterator"), (10, .class_ 60), (0, u "java/lang/CharSequence$1CharIterator"), (5, .class_ 67), (0, u "java/lang/Object")] 63

/-- java/lang/CharSequence -/
def k4 : Class := { plain "java/lang/CharSequence" (some 0) with
  accessFlags := 1537
  interfaces := #[]
  cf := some (fileOf pool4 2 #[.nestMembers #[47, 59]] #[] 1537 66 #[] #[])
  fields := #[]
  methods := #[]
  instanceTypes := #[]
  staticTypes := #[]
  resolved := Array.replicate 131 none
  statics := none }

def pool5 : Array CpInfo := pool [(1, .class_ 2), (0, u "java/lang/constant/Constable"), (0, .class_ 4), (0, u "java/lang/Object")] 6

/-- java/lang/constant/Constable -/
def k5 : Class := { plain "java/lang/constant/Constable" (some 0) with
  accessFlags := 1537
  interfaces := #[]
  cf := some (fileOf pool5 1 #[] #[] 1537 3 #[] #[])
  fields := #[]
  methods := #[]
  instanceTypes := #[]
  staticTypes := #[]
  resolved := Array.replicate 11 none
  statics := none }

def pool6 : Array CpInfo := pool [(1, .class_ 2), (0, u "java/lang/constant/ConstantDesc"), (0, .class_ 4), (0, u "java/lang/Object")] 32

/-- java/lang/constant/ConstantDesc -/
def k6 : Class := { plain "java/lang/constant/ConstantDesc" (some 0) with
  accessFlags := 1537
  interfaces := #[]
  cf := some (fileOf pool6 1 #[] #[] 1537 3 #[] #[])
  fields := #[]
  methods := #[]
  instanceTypes := #[]
  staticTypes := #[]
  resolved := Array.replicate 37 none
  statics := none }

def pool7 : Array CpInfo := pool [(1, .methodref 2 3), (0, .class_ 4), (0, .nameAndType 5 6), (0, u "java/lang/Object"), (0, u "<init>"), (0, u "()V"), (0, .string 8), (0, u ""), (0, .fieldref 10 11), (0, .class_ 12), (0, .nameAndType 13 14), (0, u "java/lang/String"), (0, u "value"), (0, u "[B"), (0, .fieldref 10 16), (0, .nameAndType 17 18), (0, u "coder"), (0, u "B"), (2, u "hash"), (0, u "I"), (2, u "hashIsZero"), (0, u "Z"), (0, .methodref 10 28), (0, .nameAndType 5 29), (0, u "([CIILjava/lang/Void;)V"), (8, .fieldref 10 39), (0, .nameAndType 40 26), (0, u "COMPACT_STRINGS"), (1, .class_ 44), (1, u "java/lang/StringUTF16"), (0, u "compress"), (1, .methodref 42 48), (0, .nameAndType 49 50), (0, u "coderFromArrayLen"), (0, u "([BI)B"), (56, .class_ 109), (1, u "java/lang/StringLatin1"), (32, u "()Z"), (34, .methodref 42 178), (0, .nameAndType 45 179), (0, u "([CII)[B"), (31, u "([BB)V"), (122, u "()I"), (0, .methodref 10 336), (0, .nameAndType 17 337), (0, u "()B"), (25, u "([BI)C"), (27, u "(II)V"), (35, u "(I)C"), (36, u "()Ljava/lang/String;"), (27, .methodref 10 493), (0, .nameAndType 494 142), (0, u "isLatin1"), (0, .methodref 107 496), (0, .nameAndType 497 363), (0, u "charAt"), (3, u "checkIndex"), (3, .methodref 10 506), (0, .nameAndType 507 334), (0, u "length"), (5, u "checkFromToIndex"), (7, .methodref 10 522), (0, .nameAndType 523 524), (0, u "checkBoundsBeginEnd"), (0, u "(III)V"), (50, .class_ 576), (0, u "java/lang/CharSequence"), (22, u "CASE_INSENSITIVE_ORDER"), (0, u "Ljava/util/Comparator;"), (32, .methodref 10 634), (0, .nameAndType 635 636), (0, u "indexOf"), (0, u "(II)I"), (0, .methodref 107 638), (0, .nameAndType 635 639), (0, u "([BIII)I"), (43, u "substring"), (0, u "(II)Ljava/lang/String;"), (0, .methodref 107 686), (0, .nameAndType 687 688), (0, u "newString"), (0, u "([BII)Ljava/lang/String;"), (76, u "(I)I"), (93, .methodref 107 860), (0, .nameAndType 861 862), (0, u "trim"), (0, u "([B)Ljava/lang/String;"), (147, u "([C)V"), (42, .fieldref 1054 1055), (0, .class_ 1056), (0, .nameAndType 1057 1058), (0, u "jdk/internal/util/Preconditions"), (0, u "SIOOBE_FORMATTER"), (0, u "Ljava/util/function/BiFunction;"), (0, .methodref 1054 1060), (0, .nameAndType 501 1061), (0, u "(IILjava/util/function/BiFunction;)I"), (0, .methodref 1054 1063), (0, .nameAndType 513 1064), (0, u "(IIILjava/util/function/BiFunction;)I"), (36, u "serialPersistentFields"), (0, u "[Ljava/io/ObjectStreamField;"), (0, .class_ 1104), (0, u "java/lang/String$CaseInsensitiveComparator"), (1, .class_ 1107), (0, u "java/io/Serializable"), (0, .class_ 1109), (0, u "java/lang/Comparable"), (0, .class_ 1111), (0, u "java/lang/constant/Constable"), (0, .class_ 1113), (0, u "java/lang/constant/ConstantDesc"), (2, u "serialVersionUID"), (0, u "J"), (3, u "REPL"), (0, u "C"), (2, u "LATIN1"), (1, u "UTF16")] 323

def k7m0 : Method := { name := "<init>", desc := "()V", sig := { parameters := [], returnType := none }, accessFlags := 1, code := none }
def k7c1 : Code := { maxStack := 5, maxLocals := 2, code := jdk_42_method_3_code, exceptionTable := #[], attributes := #[] }
def k7m1 : Method := { name := "<init>", desc := "([C)V", sig := { parameters := [(.array .char)], returnType := none }, accessFlags := 1, code := some k7c1 }
def k7c2 : Code := { maxStack := 2, maxLocals := 1, code := jdk_42_method_54_code, exceptionTable := #[], attributes := #[] }
def k7m2 : Method := { name := "length", desc := "()I", sig := { parameters := [], returnType := some .int }, accessFlags := 1, code := some k7c2 }
def k7c3 : Code := { maxStack := 2, maxLocals := 2, code := jdk_42_method_56_code, exceptionTable := #[], attributes := #[] }
def k7m3 : Method := { name := "charAt", desc := "(I)C", sig := { parameters := [.int], returnType := some .char }, accessFlags := 1, code := some k7c3 }
def k7c4 : Code := { maxStack := 3, maxLocals := 2, code := jdk_42_method_79_code, exceptionTable := #[], attributes := #[] }
def k7m4 : Method := { name := "indexOf", desc := "(I)I", sig := { parameters := [.int], returnType := some .int }, accessFlags := 1, code := some k7c4 }
def k7c5 : Code := { maxStack := 4, maxLocals := 3, code := jdk_42_method_80_code, exceptionTable := #[], attributes := #[] }
def k7m5 : Method := { name := "indexOf", desc := "(II)I", sig := { parameters := [.int, .int], returnType := some .int }, accessFlags := 1, code := some k7c5 }
def k7c6 : Code := { maxStack := 3, maxLocals := 5, code := jdk_42_method_92_code, exceptionTable := #[], attributes := #[] }
def k7m6 : Method := { name := "substring", desc := "(II)Ljava/lang/String;", sig := { parameters := [.int, .int], returnType := some (.object "java/lang/String") }, accessFlags := 1, code := some k7c6 }
def k7c7 : Code := { maxStack := 1, maxLocals := 2, code := jdk_42_method_113_code, exceptionTable := #[], attributes := #[] }
def k7m7 : Method := { name := "trim", desc := "()Ljava/lang/String;", sig := { parameters := [], returnType := some (.object "java/lang/String") }, accessFlags := 1, code := some k7c7 }
def k7c8 : Code := { maxStack := 4, maxLocals := 6, code := jdk_42_method_149_code, exceptionTable := #[], attributes := #[] }
def k7m8 : Method := { name := "<init>", desc := "([CIILjava/lang/Void;)V", sig := { parameters := [(.array .char), .int, .int, (.object "java/lang/Void")], returnType := none }, accessFlags := 2, code := some k7c8 }
def k7c9 : Code := { maxStack := 2, maxLocals := 3, code := jdk_42_method_151_code, exceptionTable := #[], attributes := #[] }
def k7m9 : Method := { name := "<init>", desc := "([BB)V", sig := { parameters := [(.array .byte), .byte], returnType := none }, accessFlags := 0, code := some k7c9 }
def k7c10 : Code := { maxStack := 1, maxLocals := 1, code := jdk_42_method_152_code, exceptionTable := #[], attributes := #[] }
def k7m10 : Method := { name := "coder", desc := "()B", sig := { parameters := [], returnType := some .byte }, accessFlags := 0, code := some k7c10 }
def k7c11 : Code := { maxStack := 1, maxLocals := 1, code := jdk_42_method_154_code, exceptionTable := #[], attributes := #[] }
def k7m11 : Method := { name := "isLatin1", desc := "()Z", sig := { parameters := [], returnType := some .boolean }, accessFlags := 0, code := some k7c11 }
def k7c12 : Code := { maxStack := 3, maxLocals := 2, code := jdk_42_method_155_code, exceptionTable := #[], attributes := #[] }
def k7m12 : Method := { name := "checkIndex", desc := "(II)V", sig := { parameters := [.int, .int], returnType := none }, accessFlags := 8, code := some k7c12 }
def k7c13 : Code := { maxStack := 4, maxLocals := 3, code := jdk_42_method_158_code, exceptionTable := #[], attributes := #[] }
def k7m13 : Method := { name := "checkBoundsBeginEnd", desc := "(III)V", sig := { parameters := [.int, .int, .int], returnType := none }, accessFlags := 8, code := some k7c13 }
/-- java/lang/String -/
def k7 : Class := { plain "java/lang/String" (some 0) with
  accessFlags := 49
  interfaces := #[2, 3, 4, 5, 6]
  cf := some (fileOf pool7 10 #[.nestMembers #[1103]] #[{ accessFlags := 1, nameIndex := 5, descriptorIndex := 6, attributes := #[] }, { accessFlags := 1, nameIndex := 5, descriptorIndex := 1010, attributes := #[] }, { accessFlags := 1, nameIndex := 507, descriptorIndex := 334, attributes := #[] }, { accessFlags := 1, nameIndex := 497, descriptorIndex := 427, attributes := #[] }, { accessFlags := 1, nameIndex := 635, descriptorIndex := 765, attributes := #[] }, { accessFlags := 1, nameIndex := 635, descriptorIndex := 636, attributes := #[] }, { accessFlags := 1, nameIndex := 683, descriptorIndex := 684, attributes := #[] }, { accessFlags := 1, nameIndex := 861, descriptorIndex := 464, attributes := #[] }, { accessFlags := 2, nameIndex := 5, descriptorIndex := 29, attributes := #[] }, { accessFlags := 0, nameIndex := 5, descriptorIndex := 211, attributes := #[] }, { accessFlags := 0, nameIndex := 17, descriptorIndex := 337, attributes := #[] }, { accessFlags := 0, nameIndex := 494, descriptorIndex := 142, attributes := #[] }, { accessFlags := 8, nameIndex := 501, descriptorIndex := 391, attributes := #[] }, { accessFlags := 8, nameIndex := 523, descriptorIndex := 524, attributes := #[] }] 49 2 #[1106, 1108, 575, 1110, 1112] #[{ accessFlags := 18, nameIndex := 13, descriptorIndex := 14, attributes := #[] }, { accessFlags := 18, nameIndex := 17, descriptorIndex := 18, attributes := #[] }, { accessFlags := 2, nameIndex := 21, descriptorIndex := 22, attributes := #[] }, { accessFlags := 2, nameIndex := 25, descriptorIndex := 26, attributes := #[] }, { accessFlags := 26, nameIndex := 1116, descriptorIndex := 1117, attributes := #[] }, { accessFlags := 24, nameIndex := 40, descriptorIndex := 26, attributes := #[] }, { accessFlags := 26, nameIndex := 1101, descriptorIndex := 1102, attributes := #[] }, { accessFlags := 26, nameIndex := 1121, descriptorIndex := 1122, attributes := #[] }, { accessFlags := 25, nameIndex := 599, descriptorIndex := 600, attributes := #[] }, { accessFlags := 24, nameIndex := 1125, descriptorIndex := 18, attributes := #[] }, { accessFlags := 24, nameIndex := 1127, descriptorIndex := 18, attributes := #[] }])
  fields := #[{ name := "value", type := (.array .byte), accessFlags := 18, slot := 0, constantValue := 0 }, { name := "coder", type := .byte, accessFlags := 18, slot := 1, constantValue := 0 }, { name := "hash", type := .int, accessFlags := 2, slot := 2, constantValue := 0 }, { name := "hashIsZero", type := .boolean, accessFlags := 2, slot := 3, constantValue := 0 }, { name := "serialVersionUID", type := .long, accessFlags := 26, slot := 0, constantValue := 0 }, { name := "COMPACT_STRINGS", type := .boolean, accessFlags := 24, slot := 1, constantValue := 0 }, { name := "serialPersistentFields", type := (.array (.object "java/io/ObjectStreamField")), accessFlags := 26, slot := 2, constantValue := 0 }, { name := "REPL", type := .char, accessFlags := 26, slot := 3, constantValue := 0 }, { name := "CASE_INSENSITIVE_ORDER", type := (.object "java/util/Comparator"), accessFlags := 25, slot := 4, constantValue := 0 }, { name := "LATIN1", type := .byte, accessFlags := 24, slot := 5, constantValue := 0 }, { name := "UTF16", type := .byte, accessFlags := 24, slot := 6, constantValue := 0 }]
  methods := #[k7m0, k7m1, k7m2, k7m3, k7m4, k7m5, k7m6, k7m7, k7m8, k7m9, k7m10, k7m11, k7m12, k7m13]
  instanceTypes := #[(.array .byte), .byte, .int, .boolean]
  staticTypes := #[.long, .boolean, (.array (.object "java/io/ObjectStreamField")), .char, (.object "java/util/Comparator"), .byte, .byte]
  resolved := Array.replicate 1451 none
  statics := some 0 }

def pool8 : Array CpInfo := pool [(2, .class_ 4), (1, u "java/lang/Object"), (3, .class_ 10), (1, u "com/example/partwright/partwright/reader/HeaderValue"), (0, u "type"), (0, u "Ljava/lang/String;"), (2, u "parameters"), (0, u "Ljava/util/Map;"), (0, .methodref 18 19), (0, .class_ 20), (0, .nameAndType 21 22), (0, u "java/lang/String"), (0, u "indexOf"), (0, u "(I)I"), (0, .methodref 18 24), (0, .nameAndType 25 26), (0, u "substring"), (0, u "(II)Ljava/lang/String;"), (0, .methodref 18 28), (0, .nameAndType 29 30), (0, u "trim"), (0, u "()Ljava/lang/String;"), (21, u "typeOf"), (0, u "(Ljava/lang/String;)Ljava/lang/String;")] 76

def k8c0 : Code := { maxStack := 3, maxLocals := 3, code := prog_8_method_2_code, exceptionTable := #[], attributes := #[] }
def k8m0 : Method := { name := "typeOf", desc := "(Ljava/lang/String;)Ljava/lang/String;", sig := { parameters := [(.object "java/lang/String")], returnType := some (.object "java/lang/String") }, accessFlags := 8, code := some k8c0 }
/-- com/example/partwright/partwright/reader/HeaderValue -/
def k8 : Class := { plain "com/example/partwright/partwright/reader/HeaderValue" (some 0) with
  accessFlags := 48
  interfaces := #[]
  cf := some (fileOf pool8 8 #[] #[{ accessFlags := 8, nameIndex := 52, descriptorIndex := 53, attributes := #[] }] 48 2 #[] #[{ accessFlags := 18, nameIndex := 11, descriptorIndex := 12, attributes := #[] }, { accessFlags := 18, nameIndex := 15, descriptorIndex := 16, attributes := #[] }])
  fields := #[{ name := "type", type := (.object "java/lang/String"), accessFlags := 18, slot := 0, constantValue := 0 }, { name := "parameters", type := (.object "java/util/Map"), accessFlags := 18, slot := 1, constantValue := 0 }]
  methods := #[k8m0]
  instanceTypes := #[(.object "java/lang/String"), (.object "java/util/Map")]
  staticTypes := #[]
  resolved := Array.replicate 130 none
  statics := none }

def pool9 : Array CpInfo := pool [(1, .class_ 2), (0, u "java/lang/String"), (1, .class_ 6), (1, u "java/lang/Object"), (0, u "<init>"), (0, u "()V"), (0, .methodref 1 10), (0, .nameAndType 11 12), (0, u "checkIndex"), (0, u "(II)V"), (1, .class_ 16), (1, u "java/lang/StringLatin1"), (21, .methodref 39 40), (0, .class_ 41), (0, .nameAndType 42 43), (0, u "java/lang/Math"), (0, u "min"), (0, u "(II)I"), (9, u "([BI)C"), (34, .methodref 14 89), (0, .nameAndType 90 91), (0, u "canEncode"), (0, u "(I)Z"), (0, .methodref 39 93), (0, .nameAndType 94 43), (0, u "max"), (0, .methodref 14 96), (0, .nameAndType 97 98), (0, u "indexOfChar"), (0, u "([BIII)I"), (2, u "indexOf"), (10, .methodref 1 113), (0, .nameAndType 7 114), (0, u "([BB)V"), (6, u "$assertionsDisabled"), (0, u "Z"), (8, .class_ 133), (1, u "java/util/Arrays"), (17, .string 152), (0, u ""), (42, .nameAndType 196 197), (0, u "newString"), (0, u "([BII)Ljava/lang/String;"), (12, .methodref 14 195), (10, .class_ 223), (1, u "java/lang/StringLatin1$LinesSpliterator"), (8, .methodref 131 233), (0, .nameAndType 234 235), (0, u "copyOfRange"), (0, u "([BII)[B"), (16, u "charAt"), (113, u "trim"), (0, u "([B)Ljava/lang/String;"), (22, .class_ 391), (0, u "java/lang/StringLatin1$CharsSpliterator")] 3

def k9m0 : Method := { name := "<init>", desc := "()V", sig := { parameters := [], returnType := none }, accessFlags := 0, code := none }
def k9c1 : Code := { maxStack := 2, maxLocals := 2, code := jdk_43_method_2_code, exceptionTable := #[], attributes := #[] }
def k9m1 : Method := { name := "charAt", desc := "([BI)C", sig := { parameters := [(.array .byte), .int], returnType := some .char }, accessFlags := 9, code := some k9c1 }
def k9c2 : Code := { maxStack := 2, maxLocals := 1, code := jdk_43_method_4_code, exceptionTable := #[], attributes := #[] }
def k9m2 : Method := { name := "canEncode", desc := "(I)Z", sig := { parameters := [.int], returnType := some .boolean }, accessFlags := 9, code := some k9c2 }
def k9c3 : Code := { maxStack := 4, maxLocals := 4, code := jdk_43_method_22_code, exceptionTable := #[], attributes := #[] }
def k9m3 : Method := { name := "indexOf", desc := "([BIII)I", sig := { parameters := [(.array .byte), .int, .int, .int], returnType := some .int }, accessFlags := 9, code := some k9c3 }
def k9c4 : Code := { maxStack := 2, maxLocals := 6, code := jdk_43_method_23_code, exceptionTable := #[], attributes := #[] }
def k9m4 : Method := { name := "indexOfChar", desc := "([BIII)I", sig := { parameters := [(.array .byte), .int, .int, .int], returnType := some .int }, accessFlags := 10, code := some k9c4 }
def k9c5 : Code := { maxStack := 4, maxLocals := 3, code := jdk_43_method_36_code, exceptionTable := #[], attributes := #[] }
def k9m5 : Method := { name := "trim", desc := "([B)Ljava/lang/String;", sig := { parameters := [(.array .byte)], returnType := some (.object "java/lang/String") }, accessFlags := 9, code := some k9c5 }
def k9c6 : Code := { maxStack := 6, maxLocals := 3, code := jdk_43_method_47_code, exceptionTable := #[], attributes := #[] }
def k9m6 : Method := { name := "newString", desc := "([BII)Ljava/lang/String;", sig := { parameters := [(.array .byte), .int, .int], returnType := some (.object "java/lang/String") }, accessFlags := 9, code := some k9c6 }
/-- java/lang/StringLatin1 -/
def k9 : Class := { plain "java/lang/StringLatin1" (some 0) with
  accessFlags := 48
  interfaces := #[]
  cf := some (fileOf pool9 14 #[.nestMembers #[390, 221]] #[{ accessFlags := 0, nameIndex := 7, descriptorIndex := 8, attributes := #[] }, { accessFlags := 9, nameIndex := 252, descriptorIndex := 53, attributes := #[] }, { accessFlags := 9, nameIndex := 90, descriptorIndex := 91, attributes := #[] }, { accessFlags := 9, nameIndex := 101, descriptorIndex := 98, attributes := #[] }, { accessFlags := 10, nameIndex := 97, descriptorIndex := 98, attributes := #[] }, { accessFlags := 9, nameIndex := 366, descriptorIndex := 367, attributes := #[] }, { accessFlags := 9, nameIndex := 196, descriptorIndex := 197, attributes := #[] }] 48 4 #[] #[{ accessFlags := 4120, nameIndex := 121, descriptorIndex := 122, attributes := #[] }])
  fields := #[{ name := "$assertionsDisabled", type := .boolean, accessFlags := 4120, slot := 0, constantValue := 0 }]
  methods := #[k9m0, k9m1, k9m2, k9m3, k9m4, k9m5, k9m6]
  instanceTypes := #[]
  staticTypes := #[.boolean]
  resolved := Array.replicate 395 none
  statics := none }

def pool10 : Array CpInfo := pool [(1, .class_ 2), (0, u "java/lang/Math"), (1, .class_ 6), (1, u "java/lang/Object"), (0, u "<init>"), (0, u "()V"), (89, .class_ 100), (1, u "java/lang/Math$RandomNumberGeneratorHolder"), (71, u "negativeZeroFloatBits"), (0, u "J"), (2, u "negativeZeroDoubleBits"), (21, u "max"), (2, u "min"), (43, u "$assertionsDisabled"), (0, u "Z"), (88, u "(II)I"), (2, u "twoToTheDoubleScaleDown"), (0, u "D"), (4, u "twoToTheDoubleScaleUp"), (9, u "E"), (3, u "PI"), (2, u "TAU"), (2, u "DEGREES_TO_RADIANS"), (0, u "RADIANS_TO_DEGREES")] 94

def k10m0 : Method := { name := "<init>", desc := "()V", sig := { parameters := [], returnType := none }, accessFlags := 2, code := none }
def k10c1 : Code := { maxStack := 2, maxLocals := 2, code := jdk_29_method_65_code, exceptionTable := #[], attributes := #[] }
def k10m1 : Method := { name := "max", desc := "(II)I", sig := { parameters := [.int, .int], returnType := some .int }, accessFlags := 9, code := some k10c1 }
def k10c2 : Code := { maxStack := 2, maxLocals := 2, code := jdk_29_method_69_code, exceptionTable := #[], attributes := #[] }
def k10m2 : Method := { name := "min", desc := "(II)I", sig := { parameters := [.int, .int], returnType := some .int }, accessFlags := 9, code := some k10c2 }
/-- java/lang/Math -/
def k10 : Class := { plain "java/lang/Math" (some 0) with
  accessFlags := 49
  interfaces := #[]
  cf := some (fileOf pool10 1 #[.nestMembers #[98]] #[{ accessFlags := 2, nameIndex := 7, descriptorIndex := 8, attributes := #[] }, { accessFlags := 9, nameIndex := 198, descriptorIndex := 335, attributes := #[] }, { accessFlags := 9, nameIndex := 201, descriptorIndex := 335, attributes := #[] }] 49 4 #[] #[{ accessFlags := 25, nameIndex := 354, descriptorIndex := 339, attributes := #[] }, { accessFlags := 25, nameIndex := 358, descriptorIndex := 339, attributes := #[] }, { accessFlags := 25, nameIndex := 361, descriptorIndex := 339, attributes := #[] }, { accessFlags := 26, nameIndex := 364, descriptorIndex := 339, attributes := #[] }, { accessFlags := 26, nameIndex := 365, descriptorIndex := 339, attributes := #[] }, { accessFlags := 26, nameIndex := 172, descriptorIndex := 173, attributes := #[] }, { accessFlags := 26, nameIndex := 176, descriptorIndex := 173, attributes := #[] }, { accessFlags := 8, nameIndex := 344, descriptorIndex := 339, attributes := #[] }, { accessFlags := 8, nameIndex := 338, descriptorIndex := 339, attributes := #[] }, { accessFlags := 4120, nameIndex := 245, descriptorIndex := 246, attributes := #[] }])
  fields := #[{ name := "E", type := .double, accessFlags := 25, slot := 0, constantValue := 0 }, { name := "PI", type := .double, accessFlags := 25, slot := 1, constantValue := 0 }, { name := "TAU", type := .double, accessFlags := 25, slot := 2, constantValue := 0 }, { name := "DEGREES_TO_RADIANS", type := .double, accessFlags := 26, slot := 3, constantValue := 0 }, { name := "RADIANS_TO_DEGREES", type := .double, accessFlags := 26, slot := 4, constantValue := 0 }, { name := "negativeZeroFloatBits", type := .long, accessFlags := 26, slot := 5, constantValue := 0 }, { name := "negativeZeroDoubleBits", type := .long, accessFlags := 26, slot := 6, constantValue := 0 }, { name := "twoToTheDoubleScaleUp", type := .double, accessFlags := 8, slot := 7, constantValue := 0 }, { name := "twoToTheDoubleScaleDown", type := .double, accessFlags := 8, slot := 8, constantValue := 0 }, { name := "$assertionsDisabled", type := .boolean, accessFlags := 4120, slot := 9, constantValue := 0 }]
  methods := #[k10m0, k10m1, k10m2]
  instanceTypes := #[]
  staticTypes := #[.double, .double, .double, .double, .double, .long, .long, .double, .double, .boolean]
  resolved := Array.replicate 460 none
  statics := none }

def pool11 : Array CpInfo := pool [(6, .class_ 8), (1, u "java/lang/Object"), (0, u "<init>"), (0, u "()V"), (1, .class_ 14), (1, u "java/lang/StringUTF16"), (31, u "$assertionsDisabled"), (0, u "Z"), (13, u "HI_BYTE_SHIFT"), (0, u "I"), (2, u "LO_BYTE_SHIFT"), (49, .methodref 12 116), (0, .nameAndType 117 118), (0, u "compress"), (0, u "([CI[BII)I"), (3, u "([CII)[B"), (138, u "coderFromArrayLen"), (0, u "([BI)B"), (106, .class_ 371), (1, u "java/lang/StringUTF16$LinesSpliterator"), (58, u "MAX_LENGTH"), (196, .class_ 628), (0, u "java/lang/StringUTF16$CodePointsSpliterator"), (0, .class_ 630), (0, u "java/lang/StringUTF16$CharsSpliterator")] 4

def k11m0 : Method := { name := "<init>", desc := "()V", sig := { parameters := [], returnType := none }, accessFlags := 0, code := none }
def k11c1 : Code := { maxStack := 2, maxLocals := 2, code := jdk_52_method_15_code, exceptionTable := #[], attributes := #[] }
def k11m1 : Method := { name := "coderFromArrayLen", desc := "([BI)B", sig := { parameters := [(.array .byte), .int], returnType := some .byte }, accessFlags := 8, code := some k11c1 }
def k11c2 : Code := { maxStack := 5, maxLocals := 6, code := jdk_52_method_16_code, exceptionTable := #[], attributes := #[] }
def k11m2 : Method := { name := "compress", desc := "([CII)[B", sig := { parameters := [(.array .char), .int, .int], returnType := some (.array .byte) }, accessFlags := 9, code := some k11c2 }
def k11c3 : Code := { maxStack := 3, maxLocals := 7, code := jdk_52_method_21_code, exceptionTable := #[], attributes := #[] }
def k11m3 : Method := { name := "compress", desc := "([CI[BII)I", sig := { parameters := [(.array .char), .int, (.array .byte), .int, .int], returnType := some .int }, accessFlags := 9, code := some k11c3 }
/-- java/lang/StringUTF16 -/
def k11 : Class := { plain "java/lang/StringUTF16" (some 0) with
  accessFlags := 48
  interfaces := #[]
  cf := some (fileOf pool11 12 #[.nestMembers #[627, 629, 369]] #[{ accessFlags := 0, nameIndex := 9, descriptorIndex := 10, attributes := #[] }, { accessFlags := 8, nameIndex := 261, descriptorIndex := 262, attributes := #[] }, { accessFlags := 9, nameIndex := 117, descriptorIndex := 122, attributes := #[] }, { accessFlags := 9, nameIndex := 117, descriptorIndex := 118, attributes := #[] }] 48 6 #[] #[{ accessFlags := 26, nameIndex := 61, descriptorIndex := 62, attributes := #[] }, { accessFlags := 26, nameIndex := 65, descriptorIndex := 62, attributes := #[] }, { accessFlags := 24, nameIndex := 430, descriptorIndex := 62, attributes := #[] }, { accessFlags := 4120, nameIndex := 46, descriptorIndex := 47, attributes := #[] }])
  fields := #[{ name := "HI_BYTE_SHIFT", type := .int, accessFlags := 26, slot := 0, constantValue := 0 }, { name := "LO_BYTE_SHIFT", type := .int, accessFlags := 26, slot := 1, constantValue := 0 }, { name := "MAX_LENGTH", type := .int, accessFlags := 24, slot := 2, constantValue := 0 }, { name := "$assertionsDisabled", type := .boolean, accessFlags := 4120, slot := 3, constantValue := 0 }]
  methods := #[k11m0, k11m1, k11m2, k11m3]
  instanceTypes := #[]
  staticTypes := #[.int, .int, .int, .boolean]
  resolved := Array.replicate 635 none
  statics := none }

def pool12 : Array CpInfo := pool [(2, .class_ 4), (1, u "java/lang/Object"), (0, u "<init>"), (0, u "()V"), (17, .class_ 26), (1, u "jdk/internal/util/Preconditions"), (6, u "checkIndex"), (13, u "checkFromToIndex"), (7, .class_ 56), (0, u "jdk/internal/util/Preconditions$4"), (57, .class_ 115), (0, u "jdk/internal/util/Preconditions$1"), (7, u "SIOOBE_FORMATTER"), (0, u "Ljava/util/function/BiFunction;"), (0, .class_ 126), (0, u "jdk/internal/util/Preconditions$2"), (3, u "AIOOBE_FORMATTER"), (0, .class_ 132), (0, u "jdk/internal/util/Preconditions$3"), (3, u "IOOBE_FORMATTER"), (41, u "(IILjava/util/function/BiFunction;)I"), (4, u "(IIILjava/util/function/BiFunction;)I")] 10

def k12m0 : Method := { name := "<init>", desc := "()V", sig := { parameters := [], returnType := none }, accessFlags := 1, code := none }
def k12c1 : Code := { maxStack := 3, maxLocals := 3, code := jdk_41_method_11_code, exceptionTable := #[], attributes := #[] }
def k12m1 : Method := { name := "checkIndex", desc := "(IILjava/util/function/BiFunction;)I", sig := { parameters := [.int, .int, (.object "java/util/function/BiFunction")], returnType := some .int }, accessFlags := 9, code := some k12c1 }
def k12c2 : Code := { maxStack := 4, maxLocals := 4, code := jdk_41_method_12_code, exceptionTable := #[], attributes := #[] }
def k12m2 : Method := { name := "checkFromToIndex", desc := "(IIILjava/util/function/BiFunction;)I", sig := { parameters := [.int, .int, .int, (.object "java/util/function/BiFunction")], returnType := some .int }, accessFlags := 9, code := some k12c2 }
/-- jdk/internal/util/Preconditions -/
def k12 : Class := { plain "jdk/internal/util/Preconditions" (some 0) with
  accessFlags := 33
  interfaces := #[]
  cf := some (fileOf pool12 24 #[.nestMembers #[55, 131, 125, 114]] #[{ accessFlags := 1, nameIndex := 5, descriptorIndex := 6, attributes := #[] }, { accessFlags := 9, nameIndex := 33, descriptorIndex := 178, attributes := #[] }, { accessFlags := 9, nameIndex := 47, descriptorIndex := 183, attributes := #[] }] 33 2 #[] #[{ accessFlags := 25, nameIndex := 123, descriptorIndex := 124, attributes := #[] }, { accessFlags := 25, nameIndex := 130, descriptorIndex := 124, attributes := #[] }, { accessFlags := 25, nameIndex := 136, descriptorIndex := 124, attributes := #[] }])
  fields := #[{ name := "SIOOBE_FORMATTER", type := (.object "java/util/function/BiFunction"), accessFlags := 25, slot := 0, constantValue := 0 }, { name := "AIOOBE_FORMATTER", type := (.object "java/util/function/BiFunction"), accessFlags := 25, slot := 1, constantValue := 0 }, { name := "IOOBE_FORMATTER", type := (.object "java/util/function/BiFunction"), accessFlags := 25, slot := 2, constantValue := 0 }]
  methods := #[k12m0, k12m1, k12m2]
  instanceTypes := #[]
  staticTypes := #[(.object "java/util/function/BiFunction"), (.object "java/util/function/BiFunction"), (.object "java/util/function/BiFunction")]
  resolved := Array.replicate 194 none
  statics := some 1 }

def pool13 : Array CpInfo := pool [(2, .class_ 4), (1, u "java/lang/Object"), (0, u "<init>"), (0, u "()V"), (7, .class_ 16), (1, u "java/util/Arrays"), (57, .class_ 76), (1, u "java/util/Arrays$NaturalOrder"), (36, .class_ 115), (1, u "java/util/Arrays$LegacyMergeSort"), (1, u "Z"), (21, u "copyOfRange"), (10, .methodref 151 152), (0, .class_ 153), (0, .nameAndType 154 155), (0, u "java/lang/System"), (0, u "arraycopy"), (0, u "(Ljava/lang/Object;ILjava/lang/Object;II)V"), (148, .methodref 305 306), (0, .class_ 307), (0, .nameAndType 308 309), (0, u "java/lang/Math"), (0, u "min"), (0, u "(II)I"), (29, .methodref 14 340), (0, .nameAndType 341 342), (0, u "copyOfRangeByte"), (0, u "([BII)[B"), (0, .methodref 14 344), (0, .nameAndType 345 346), (0, u "checkLength"), (0, u "(II)V"), (28, .class_ 376), (0, u "java/util/Arrays$ArrayList"), (68, u "$assertionsDisabled"), (269, u "MIN_ARRAY_SORT_GRAN"), (0, u "I"), (2, u "INSERTIONSORT_THRESHOLD"), (255, .class_ 976), (0, u "java/util/Arrays$ArrayItr")] 52

def k13m0 : Method := { name := "<init>", desc := "()V", sig := { parameters := [], returnType := none }, accessFlags := 2, code := none }
def k13c1 : Code := { maxStack := 4, maxLocals := 2, code := jdk_65_method_131_code, exceptionTable := #[], attributes := #[] }
def k13m1 : Method := { name := "checkLength", desc := "(II)V", sig := { parameters := [.int, .int], returnType := none }, accessFlags := 10, code := some k13c1 }
def k13c2 : Code := { maxStack := 3, maxLocals := 3, code := jdk_65_method_132_code, exceptionTable := #[], attributes := #[] }
def k13m2 : Method := { name := "copyOfRange", desc := "([BII)[B", sig := { parameters := [(.array .byte), .int, .int], returnType := some (.array .byte) }, accessFlags := 9, code := some k13c2 }
def k13c3 : Code := { maxStack := 6, maxLocals := 5, code := jdk_65_method_133_code, exceptionTable := #[], attributes := #[] }
def k13m3 : Method := { name := "copyOfRangeByte", desc := "([BII)[B", sig := { parameters := [(.array .byte), .int, .int], returnType := some (.array .byte) }, accessFlags := 10, code := some k13c3 }
/-- java/util/Arrays -/
def k13 : Class := { plain "java/util/Arrays" (some 0) with
  accessFlags := 49
  interfaces := #[]
  cf := some (fileOf pool13 14 #[.nestMembers #[975, 375, 113, 74]] #[{ accessFlags := 2, nameIndex := 5, descriptorIndex := 6, attributes := #[] }, { accessFlags := 10, nameIndex := 345, descriptorIndex := 346, attributes := #[] }, { accessFlags := 9, nameIndex := 139, descriptorIndex := 342, attributes := #[] }, { accessFlags := 10, nameIndex := 341, descriptorIndex := 342, attributes := #[] }] 49 2 #[] #[{ accessFlags := 26, nameIndex := 715, descriptorIndex := 716, attributes := #[] }, { accessFlags := 26, nameIndex := 719, descriptorIndex := 716, attributes := #[] }, { accessFlags := 4120, nameIndex := 445, descriptorIndex := 117, attributes := #[] }])
  fields := #[{ name := "MIN_ARRAY_SORT_GRAN", type := .int, accessFlags := 26, slot := 0, constantValue := 0 }, { name := "INSERTIONSORT_THRESHOLD", type := .int, accessFlags := 26, slot := 1, constantValue := 0 }, { name := "$assertionsDisabled", type := .boolean, accessFlags := 4120, slot := 2, constantValue := 0 }]
  methods := #[k13m0, k13m1, k13m2, k13m3]
  instanceTypes := #[]
  staticTypes := #[.int, .int, .boolean]
  resolved := Array.replicate 1029 none
  statics := none }

def pool14 : Array CpInfo := pool [(2, .class_ 4), (1, u "java/lang/Object"), (0, u "<init>"), (0, u "()V"), (1, .class_ 10), (1, u "java/lang/System"), (0, u "allowSecurityManager"), (0, u "I"), (16, u "cons"), (0, u "Ljava/io/Console;"), (77, .class_ 110), (1, u "java/lang/System$CallersHolder"), (43, u "initialErrStream"), (0, u "Ljava/io/PrintStream;"), (19, u "security"), (0, u "Ljava/lang/SecurityManager;"), (31, .class_ 209), (0, u "java/lang/System$1"), (7, u "props"), (0, u "Ljava/util/Properties;"), (2, u "lineSeparator"), (0, u "Ljava/lang/String;"), (96, .class_ 321), (1, u "java/lang/System$LoggerFinder"), (5, .class_ 328), (0, u "java/lang/System$Logger"), (67, u "err"), (2, u "out"), (91, u "notSupportedJnuEncoding"), (15, u "in"), (17, u "initialIn"), (0, u "Ljava/io/InputStream;"), (35, u "bootLayer"), (0, u "Ljava/lang/ModuleLayer;"), (99, .class_ 664), (0, u "java/lang/System$2"), (9, u "NEVER"), (2, u "MAYBE"), (49, u "arraycopy"), (0, u "(Ljava/lang/Object;ILjava/lang/Object;II)V"), (72, .class_ 802), (0, u "java/lang/System$Logger$Level")] 31

def k14m0 : Method := { name := "<init>", desc := "()V", sig := { parameters := [], returnType := none }, accessFlags := 2, code := none }
def k14m1 : Method := { name := "arraycopy", desc := "(Ljava/lang/Object;ILjava/lang/Object;II)V", sig := { parameters := [(.object "java/lang/Object"), .int, (.object "java/lang/Object"), .int, .int], returnType := none }, accessFlags := 265, code := none }
/-- java/lang/System -/
def k14 : Class := { plain "java/lang/System" (some 0) with
  accessFlags := 49
  interfaces := #[]
  cf := some (fileOf pool14 8 #[.nestMembers #[319, 327, 801, 108, 663, 208]] #[{ accessFlags := 2, nameIndex := 5, descriptorIndex := 6, attributes := #[] }, { accessFlags := 265, nameIndex := 727, descriptorIndex := 728, attributes := #[] }] 49 2 #[] #[{ accessFlags := 25, nameIndex := 507, descriptorIndex := 526, attributes := #[] }, { accessFlags := 25, nameIndex := 399, descriptorIndex := 155, attributes := #[] }, { accessFlags := 25, nameIndex := 396, descriptorIndex := 155, attributes := #[] }, { accessFlags := 10, nameIndex := 525, descriptorIndex := 526, attributes := #[] }, { accessFlags := 26, nameIndex := 674, descriptorIndex := 12, attributes := #[] }, { accessFlags := 26, nameIndex := 677, descriptorIndex := 12, attributes := #[] }, { accessFlags := 10, nameIndex := 11, descriptorIndex := 12, attributes := #[] }, { accessFlags := 74, nameIndex := 175, descriptorIndex := 176, attributes := #[] }, { accessFlags := 10, nameIndex := 491, descriptorIndex := 222, attributes := #[] }, { accessFlags := 74, nameIndex := 29, descriptorIndex := 30, attributes := #[] }, { accessFlags := 74, nameIndex := 154, descriptorIndex := 155, attributes := #[] }, { accessFlags := 10, nameIndex := 217, descriptorIndex := 218, attributes := #[] }, { accessFlags := 10, nameIndex := 221, descriptorIndex := 222, attributes := #[] }, { accessFlags := 8, nameIndex := 562, descriptorIndex := 563, attributes := #[] }])
  fields := #[{ name := "in", type := (.object "java/io/InputStream"), accessFlags := 25, slot := 0, constantValue := 0 }, { name := "out", type := (.object "java/io/PrintStream"), accessFlags := 25, slot := 1, constantValue := 0 }, { name := "err", type := (.object "java/io/PrintStream"), accessFlags := 25, slot := 2, constantValue := 0 }, { name := "initialIn", type := (.object "java/io/InputStream"), accessFlags := 10, slot := 3, constantValue := 0 }, { name := "NEVER", type := .int, accessFlags := 26, slot := 4, constantValue := 0 }, { name := "MAYBE", type := .int, accessFlags := 26, slot := 5, constantValue := 0 }, { name := "allowSecurityManager", type := .int, accessFlags := 10, slot := 6, constantValue := 0 }, { name := "security", type := (.object "java/lang/SecurityManager"), accessFlags := 74, slot := 7, constantValue := 0 }, { name := "notSupportedJnuEncoding", type := (.object "java/lang/String"), accessFlags := 10, slot := 8, constantValue := 0 }, { name := "cons", type := (.object "java/io/Console"), accessFlags := 74, slot := 9, constantValue := 0 }, { name := "initialErrStream", type := (.object "java/io/PrintStream"), accessFlags := 74, slot := 10, constantValue := 0 }, { name := "props", type := (.object "java/util/Properties"), accessFlags := 10, slot := 11, constantValue := 0 }, { name := "lineSeparator", type := (.object "java/lang/String"), accessFlags := 10, slot := 12, constantValue := 0 }, { name := "bootLayer", type := (.object "java/lang/ModuleLayer"), accessFlags := 8, slot := 13, constantValue := 0 }]
  methods := #[k14m0, k14m1]
  instanceTypes := #[]
  staticTypes := #[(.object "java/io/InputStream"), (.object "java/io/PrintStream"), (.object "java/io/PrintStream"), (.object "java/io/InputStream"), .int, .int, .int, (.object "java/lang/SecurityManager"), (.object "java/lang/String"), (.object "java/io/Console"), (.object "java/io/PrintStream"), (.object "java/util/Properties"), (.object "java/lang/String"), (.object "java/lang/ModuleLayer")]
  resolved := Array.replicate 834 none
  statics := none }

def pool15 : Array CpInfo := pool [(9, u "<init>"), (6, .class_ 18), (1, u "java/lang/Object"), (0, u "()V"), (1, .class_ 23), (1, u "jdk/internal/util/ArraysSupport"), (0, u "LOG2_ARRAY_LONG_INDEX_SCALE"), (0, u "I"), (2, u "U"), (0, u "Ljdk/internal/misc/Unsafe;"), (8, u "BIG_ENDIAN"), (0, u "Z"), (8, u "LOG2_BYTE_BIT_SIZE"), (4, u "LOG2_ARRAY_INT_INDEX_SCALE"), (54, u "JLA"), (0, u "Ljdk/internal/access/JavaLangAccess;"), (11, u "LOG2_ARRAY_BOOLEAN_INDEX_SCALE"), (9, u "LOG2_ARRAY_BYTE_INDEX_SCALE"), (5, u "LOG2_ARRAY_CHAR_INDEX_SCALE"), (5, u "LOG2_ARRAY_SHORT_INDEX_SCALE"), (18, u "LOG2_ARRAY_FLOAT_INDEX_SCALE"), (24, u "LOG2_ARRAY_DOUBLE_INDEX_SCALE"), (89, u "T_BOOLEAN"), (2, u "T_CHAR"), (1, u "T_FLOAT"), (1, u "T_DOUBLE"), (1, u "T_BYTE"), (1, u "T_SHORT"), (1, u "T_INT"), (1, u "T_LONG"), (1, u "SOFT_MAX_ARRAY_LENGTH")] 83

def k15m0 : Method := { name := "<init>", desc := "()V", sig := { parameters := [], returnType := none }, accessFlags := 2, code := none }
/-- jdk/internal/util/ArraysSupport -/
def k15 : Class := { plain "jdk/internal/util/ArraysSupport" (some 0) with
  accessFlags := 33
  interfaces := #[]
  cf := some (fileOf pool15 21 #[] #[{ accessFlags := 2, nameIndex := 9, descriptorIndex := 19, attributes := #[] }] 33 16 #[] #[{ accessFlags := 24, nameIndex := 28, descriptorIndex := 29, attributes := #[] }, { accessFlags := 26, nameIndex := 38, descriptorIndex := 39, attributes := #[] }, { accessFlags := 25, nameIndex := 121, descriptorIndex := 25, attributes := #[] }, { accessFlags := 25, nameIndex := 131, descriptorIndex := 25, attributes := #[] }, { accessFlags := 25, nameIndex := 137, descriptorIndex := 25, attributes := #[] }, { accessFlags := 25, nameIndex := 143, descriptorIndex := 25, attributes := #[] }, { accessFlags := 25, nameIndex := 53, descriptorIndex := 25, attributes := #[] }, { accessFlags := 25, nameIndex := 24, descriptorIndex := 25, attributes := #[] }, { accessFlags := 25, nameIndex := 162, descriptorIndex := 25, attributes := #[] }, { accessFlags := 25, nameIndex := 187, descriptorIndex := 25, attributes := #[] }, { accessFlags := 26, nameIndex := 48, descriptorIndex := 25, attributes := #[] }, { accessFlags := 25, nameIndex := 277, descriptorIndex := 25, attributes := #[] }, { accessFlags := 25, nameIndex := 280, descriptorIndex := 25, attributes := #[] }, { accessFlags := 25, nameIndex := 282, descriptorIndex := 25, attributes := #[] }, { accessFlags := 25, nameIndex := 284, descriptorIndex := 25, attributes := #[] }, { accessFlags := 25, nameIndex := 286, descriptorIndex := 25, attributes := #[] }, { accessFlags := 25, nameIndex := 288, descriptorIndex := 25, attributes := #[] }, { accessFlags := 25, nameIndex := 290, descriptorIndex := 25, attributes := #[] }, { accessFlags := 25, nameIndex := 292, descriptorIndex := 25, attributes := #[] }, { accessFlags := 26, nameIndex := 108, descriptorIndex := 109, attributes := #[] }, { accessFlags := 25, nameIndex := 294, descriptorIndex := 25, attributes := #[] }])
  fields := #[{ name := "U", type := (.object "jdk/internal/misc/Unsafe"), accessFlags := 24, slot := 0, constantValue := 0 }, { name := "BIG_ENDIAN", type := .boolean, accessFlags := 26, slot := 1, constantValue := 0 }, { name := "LOG2_ARRAY_BOOLEAN_INDEX_SCALE", type := .int, accessFlags := 25, slot := 2, constantValue := 0 }, { name := "LOG2_ARRAY_BYTE_INDEX_SCALE", type := .int, accessFlags := 25, slot := 3, constantValue := 0 }, { name := "LOG2_ARRAY_CHAR_INDEX_SCALE", type := .int, accessFlags := 25, slot := 4, constantValue := 0 }, { name := "LOG2_ARRAY_SHORT_INDEX_SCALE", type := .int, accessFlags := 25, slot := 5, constantValue := 0 }, { name := "LOG2_ARRAY_INT_INDEX_SCALE", type := .int, accessFlags := 25, slot := 6, constantValue := 0 }, { name := "LOG2_ARRAY_LONG_INDEX_SCALE", type := .int, accessFlags := 25, slot := 7, constantValue := 0 }, { name := "LOG2_ARRAY_FLOAT_INDEX_SCALE", type := .int, accessFlags := 25, slot := 8, constantValue := 0 }, { name := "LOG2_ARRAY_DOUBLE_INDEX_SCALE", type := .int, accessFlags := 25, slot := 9, constantValue := 0 }, { name := "LOG2_BYTE_BIT_SIZE", type := .int, accessFlags := 26, slot := 10, constantValue := 0 }, { name := "T_BOOLEAN", type := .int, accessFlags := 25, slot := 11, constantValue := 0 }, { name := "T_CHAR", type := .int, accessFlags := 25, slot := 12, constantValue := 0 }, { name := "T_FLOAT", type := .int, accessFlags := 25, slot := 13, constantValue := 0 }, { name := "T_DOUBLE", type := .int, accessFlags := 25, slot := 14, constantValue := 0 }, { name := "T_BYTE", type := .int, accessFlags := 25, slot := 15, constantValue := 0 }, { name := "T_SHORT", type := .int, accessFlags := 25, slot := 16, constantValue := 0 }, { name := "T_INT", type := .int, accessFlags := 25, slot := 17, constantValue := 0 }, { name := "T_LONG", type := .int, accessFlags := 25, slot := 18, constantValue := 0 }, { name := "JLA", type := (.object "jdk/internal/access/JavaLangAccess"), accessFlags := 26, slot := 19, constantValue := 0 }, { name := "SOFT_MAX_ARRAY_LENGTH", type := .int, accessFlags := 25, slot := 20, constantValue := 0 }]
  methods := #[k15m0]
  instanceTypes := #[]
  staticTypes := #[(.object "jdk/internal/misc/Unsafe"), .boolean, .int, .int, .int, .int, .int, .int, .int, .int, .int, .int, .int, .int, .int, .int, .int, .int, .int, (.object "jdk/internal/access/JavaLangAccess"), .int]
  resolved := Array.replicate 378 none
  statics := none }

def pool16 : Array CpInfo := pool [(1, u "java/lang/Cloneable"), (0, .class_ 1), (0, u "java/lang/Object"), (0, .class_ 3)] 3

/-- java/lang/Cloneable -/
def k16 : Class := { plain "java/lang/Cloneable" (some 0) with
  accessFlags := 1537
  interfaces := #[]
  cf := some (fileOf pool16 2 #[] #[] 1537 4 #[] #[])
  fields := #[]
  methods := #[]
  instanceTypes := #[]
  staticTypes := #[]
  resolved := Array.replicate 8 none
  statics := none }

/-- the primitive byte -/
def k17 : Class := { plain "byte" none with kind := .primitive 'B', accessFlags := 0x411 }
/-- [B -/
def k18 : Class := { plain "[B" (some 0) with kind := .array 17 .byte, interfaces := #[16, 2], accessFlags := 1041 }

/-- the primitive char -/
def k19 : Class := { plain "char" none with kind := .primitive 'C', accessFlags := 0x411 }
/-- [C -/
def k20 : Class := { plain "[C" (some 0) with kind := .array 19 .char, interfaces := #[16, 2], accessFlags := 1041 }

/-- the primitive int -/
def k21 : Class := { plain "int" none with kind := .primitive 'I', accessFlags := 0x411 }
/-- [I -/
def k22 : Class := { plain "[I" (some 0) with kind := .array 21 .int, interfaces := #[16, 2], accessFlags := 1041 }

def heap : Heap := #[{ cls := 7, slots := #[.long 0, .int 1, .null, .int 0, .null, .int 0, .int 0], vm := .statics 7 },
  { cls := 12, slots := #[.null, .null, .null], vm := .statics 12 }]
def classes : Array Class := #[k0, k1, k2, k3, k4, k5, k6, k7, k8, k9, k10, k11, k12, k13, k14, k15, k16, k17, k18, k19, k20, k21, k22]
def interned : List (Array UInt16 × Addr) := []
def slotsUsed : Nat := 10
def theMethod : MethodId := ⟨1, 3⟩
def args0 : Array Value := #[.int 3, .int 5, .int 6, .int 7, .int 8]
def aboutOver (below : List Frame) : State where
  vm := { classes := classes, interned := interned.toArray }
  heap := heap
  slotsUsed := slotsUsed
  threads := #[{ frames := .invoking theMethod args0 :: below }]
def below0 : List Frame := [.native { method := ⟨0, 0⟩, args := #[] }]
def about1 : State := aboutOver below0
def p0 : Program := .bare "" "" ""
def e0 : Env := launch0.env 0 0 0
theorem w_frames : about1.frames = Frame.invoking theMethod args0 :: below0 := rfl
set_option maxRecDepth 65536 in
theorem w_args : argsFit about1.vm theMethod args0 = true := by decide +kernel
set_option maxRecDepth 65536 in
theorem w_heap : heapFits about1 = true := by decide +kernel
set_option maxRecDepth 65536 in
theorem w_runnable : about1.curStatus? = some .runnable := by decide +kernel
set_option maxRecDepth 65536 in
theorem w_alone : about1.alone = true := by decide +kernel
set_option maxRecDepth 65536 in
theorem w_named : about1.methodNamed? x = some theMethod := by decide +kernel
set_option maxRecDepth 65536 in
theorem w_hears : about1.hears theMethod below0 = true := by decide +kernel
set_option maxRecDepth 65536 in
theorem w_ripe : about1.ripe theMethod args0 below0 = true := by decide +kernel
theorem w_running : about1.status = .running := rfl
set_option maxRecDepth 65536 in
theorem w_room : about1.hasRoom e0.platform room_1 = true :=
  launch0.hasRoom_least _ room_1 (by decide +kernel) (by decide +kernel) (by decide +kernel) (by decide +kernel) (by decide +kernel) (by decide +kernel)
theorem allAtoms_all (ts : List Jvm.Cond) (a : Array Jvm.Value) (st : Jvm.State) : (allAtoms ts).before a st = ts.all (fun c => c.before a st) := by
  induction ts with
  | nil => rfl
  | cons c t ih =>
    show (Jvm.Cond.and c (allAtoms t)).before a st = _
    rw [Jvm.Cond.before_and, ih, List.all_cons]
def words1 : List Jvm.Cond := Jvm.Cond.code x code maxLocals ret :: tables_1
/-- a 'code' word, met by the world's own term for the bytes: nothing is compared byte by byte -/
theorem code_word {y : MethodName} {bytes : ByteArray} {mx : Nat} {rt : Option FieldType} {a : Array Value} {s : State} {m : MethodId} {meth : Method} {c : Code} (h1 : s.methodNamed? y = some m) (h2 : s.vm.method? m = some meth) (h3 : meth.code = some c) (h4 : c.code = bytes)
    (h5 : (c.maxLocals == mx && c.exceptionTable.isEmpty && decide (c.maxStack ≤ mostOperands) && decide (meth.sig.returnType = rt) && !meth.locks && decide (parseMethodDescriptor y.desc = some meth.sig)) = true) : (Jvm.Cond.code y bytes mx rt).before a s = true := by
  simp only [Bool.and_eq_true, beq_iff_eq, Bool.not_eq_true', decide_eq_true_eq] at h5
  obtain ⟨⟨⟨⟨⟨g1, g2⟩, g3⟩, g4⟩, g5⟩, g6⟩ := h5
  simp [Cond.before, Cond.holds, Cond.value, h1, h2, h3, h4, g1, g2, g3, g4, g5, g6]
def isCode : Jvm.Cond → Bool
  | .code _ _ _ _ => true
  | _ => false
theorem all_split {L : List Jvm.Cond} {P : Jvm.Cond → Bool} (h1 : L.all (fun c => isCode c || P c) = true) (h2 : ∀ c ∈ L.filter isCode, P c = true) : L.all P = true := by
  refine List.all_eq_true.mpr fun c hc => ?_
  have h := List.all_eq_true.mp h1 c hc
  rcases Bool.eq_false_or_eq_true (isCode c) with hi | hi
  · exact h2 c (List.mem_filter.mpr ⟨hc, hi⟩)
  · simpa [hi] using h
set_option maxRecDepth 65536 in
theorem w_c0 : (Jvm.Cond.code x code maxLocals ret).before args0 about1 = true := code_word (m := ⟨1, 3⟩) (meth := k1m3) (c := k1c3) (by decide +kernel) rfl rfl rfl (by decide +kernel)
set_option maxRecDepth 65536 in
theorem w_c1 : (Jvm.Cond.code ({ cls := "com/example/partwright/partwright/reader/HeaderValueTypeOfPinLaw", name := "draw", desc := "(I)C" } : Jvm.MethodName) method_2_code (3 : Nat) (Option.some Jvm.ClassFile.FieldType.char)).before args0 about1 = true := code_word (m := ⟨1, 1⟩) (meth := k1m1) (c := k1c1) (by decide +kernel) rfl rfl rfl (by decide +kernel)
set_option maxRecDepth 65536 in
theorem w_c2 : (Jvm.Cond.code ({ cls := "java/lang/String", name := "<init>", desc := "([C)V" } : Jvm.MethodName) jdk_42_method_3_code (2 : Nat) (Option.none : Option Jvm.ClassFile.FieldType)).before args0 about1 = true := code_word (m := ⟨7, 1⟩) (meth := k7m1) (c := k7c1) (by decide +kernel) rfl rfl rfl (by decide +kernel)
set_option maxRecDepth 65536 in
theorem w_c3 : (Jvm.Cond.code ({ cls := "java/lang/String", name := "<init>", desc := "([CIILjava/lang/Void;)V" } : Jvm.MethodName) jdk_42_method_149_code (6 : Nat) (Option.none : Option Jvm.ClassFile.FieldType)).before args0 about1 = true := code_word (m := ⟨7, 8⟩) (meth := k7m8) (c := k7c8) (by decide +kernel) rfl rfl rfl (by decide +kernel)
set_option maxRecDepth 65536 in
theorem w_c4 : (Jvm.Cond.code ({ cls := "java/lang/Object", name := "<init>", desc := "()V" } : Jvm.MethodName) object_method_1_code (1 : Nat) (Option.none : Option Jvm.ClassFile.FieldType)).before args0 about1 = true := code_word (m := ⟨0, 0⟩) (meth := k0m0) (c := k0c0) (by decide +kernel) rfl rfl rfl (by decide +kernel)
set_option maxRecDepth 65536 in
theorem w_c5 : (Jvm.Cond.code ({ cls := "com/example/partwright/partwright/reader/HeaderValue", name := "typeOf", desc := "(Ljava/lang/String;)Ljava/lang/String;" } : Jvm.MethodName) prog_8_method_2_code (3 : Nat) (Option.some (Jvm.ClassFile.FieldType.object "java/lang/String"))).before args0 about1 = true := code_word (m := ⟨8, 0⟩) (meth := k8m0) (c := k8c0) (by decide +kernel) rfl rfl rfl (by decide +kernel)
set_option maxRecDepth 65536 in
theorem w_c6 : (Jvm.Cond.code ({ cls := "java/lang/String", name := "indexOf", desc := "(I)I" } : Jvm.MethodName) jdk_42_method_79_code (2 : Nat) (Option.some Jvm.ClassFile.FieldType.int)).before args0 about1 = true := code_word (m := ⟨7, 4⟩) (meth := k7m4) (c := k7c4) (by decide +kernel) rfl rfl rfl (by decide +kernel)
set_option maxRecDepth 65536 in
theorem w_c7 : (Jvm.Cond.code ({ cls := "java/lang/String", name := "indexOf", desc := "(II)I" } : Jvm.MethodName) jdk_42_method_80_code (3 : Nat) (Option.some Jvm.ClassFile.FieldType.int)).before args0 about1 = true := code_word (m := ⟨7, 5⟩) (meth := k7m5) (c := k7c5) (by decide +kernel) rfl rfl rfl (by decide +kernel)
set_option maxRecDepth 65536 in
theorem w_c8 : (Jvm.Cond.code ({ cls := "java/lang/String", name := "isLatin1", desc := "()Z" } : Jvm.MethodName) jdk_42_method_154_code (1 : Nat) (Option.some Jvm.ClassFile.FieldType.boolean)).before args0 about1 = true := code_word (m := ⟨7, 11⟩) (meth := k7m11) (c := k7c11) (by decide +kernel) rfl rfl rfl (by decide +kernel)
set_option maxRecDepth 65536 in
theorem w_c9 : (Jvm.Cond.code ({ cls := "java/lang/String", name := "length", desc := "()I" } : Jvm.MethodName) jdk_42_method_54_code (1 : Nat) (Option.some Jvm.ClassFile.FieldType.int)).before args0 about1 = true := code_word (m := ⟨7, 2⟩) (meth := k7m2) (c := k7c2) (by decide +kernel) rfl rfl rfl (by decide +kernel)
set_option maxRecDepth 65536 in
theorem w_c10 : (Jvm.Cond.code ({ cls := "java/lang/String", name := "coder", desc := "()B" } : Jvm.MethodName) jdk_42_method_152_code (1 : Nat) (Option.some Jvm.ClassFile.FieldType.byte)).before args0 about1 = true := code_word (m := ⟨7, 10⟩) (meth := k7m10) (c := k7c10) (by decide +kernel) rfl rfl rfl (by decide +kernel)
set_option maxRecDepth 65536 in
theorem w_c11 : (Jvm.Cond.code ({ cls := "java/lang/StringLatin1", name := "indexOf", desc := "([BIII)I" } : Jvm.MethodName) jdk_43_method_22_code (4 : Nat) (Option.some Jvm.ClassFile.FieldType.int)).before args0 about1 = true := code_word (m := ⟨9, 3⟩) (meth := k9m3) (c := k9c3) (by decide +kernel) rfl rfl rfl (by decide +kernel)
set_option maxRecDepth 65536 in
theorem w_c12 : (Jvm.Cond.code ({ cls := "java/lang/StringLatin1", name := "canEncode", desc := "(I)Z" } : Jvm.MethodName) jdk_43_method_4_code (1 : Nat) (Option.some Jvm.ClassFile.FieldType.boolean)).before args0 about1 = true := code_word (m := ⟨9, 2⟩) (meth := k9m2) (c := k9c2) (by decide +kernel) rfl rfl rfl (by decide +kernel)
set_option maxRecDepth 65536 in
theorem w_c13 : (Jvm.Cond.code ({ cls := "java/lang/Math", name := "max", desc := "(II)I" } : Jvm.MethodName) jdk_29_method_65_code (2 : Nat) (Option.some Jvm.ClassFile.FieldType.int)).before args0 about1 = true := code_word (m := ⟨10, 1⟩) (meth := k10m1) (c := k10c1) (by decide +kernel) rfl rfl rfl (by decide +kernel)
set_option maxRecDepth 65536 in
theorem w_c14 : (Jvm.Cond.code ({ cls := "java/lang/Math", name := "min", desc := "(II)I" } : Jvm.MethodName) jdk_29_method_69_code (2 : Nat) (Option.some Jvm.ClassFile.FieldType.int)).before args0 about1 = true := code_word (m := ⟨10, 2⟩) (meth := k10m2) (c := k10c2) (by decide +kernel) rfl rfl rfl (by decide +kernel)
set_option maxRecDepth 65536 in
theorem w_c15 : (Jvm.Cond.code ({ cls := "java/lang/String", name := "trim", desc := "()Ljava/lang/String;" } : Jvm.MethodName) jdk_42_method_113_code (2 : Nat) (Option.some (Jvm.ClassFile.FieldType.object "java/lang/String"))).before args0 about1 = true := code_word (m := ⟨7, 7⟩) (meth := k7m7) (c := k7c7) (by decide +kernel) rfl rfl rfl (by decide +kernel)
set_option maxRecDepth 65536 in
theorem w_c16 : (Jvm.Cond.code ({ cls := "java/lang/StringLatin1", name := "trim", desc := "([B)Ljava/lang/String;" } : Jvm.MethodName) jdk_43_method_36_code (3 : Nat) (Option.some (Jvm.ClassFile.FieldType.object "java/lang/String"))).before args0 about1 = true := code_word (m := ⟨9, 5⟩) (meth := k9m5) (c := k9c5) (by decide +kernel) rfl rfl rfl (by decide +kernel)
set_option maxRecDepth 65536 in
theorem w_c17 : (Jvm.Cond.code ({ cls := "com/example/partwright/partwright/reader/HeaderValueTypeOfPinLaw", name := "same", desc := "(Ljava/lang/String;[CIII)Z" } : Jvm.MethodName) method_3_code (5 : Nat) (Option.some Jvm.ClassFile.FieldType.boolean)).before args0 about1 = true := code_word (m := ⟨1, 2⟩) (meth := k1m2) (c := k1c2) (by decide +kernel) rfl rfl rfl (by decide +kernel)
set_option maxRecDepth 65536 in
theorem w_c18 : (Jvm.Cond.code ({ cls := "java/lang/StringUTF16", name := "compress", desc := "([CII)[B" } : Jvm.MethodName) jdk_52_method_16_code (6 : Nat) (Option.some (Jvm.ClassFile.FieldType.array Jvm.ClassFile.FieldType.byte))).before args0 about1 = true := code_word (m := ⟨11, 2⟩) (meth := k11m2) (c := k11c2) (by decide +kernel) rfl rfl rfl (by decide +kernel)
set_option maxRecDepth 65536 in
theorem w_c19 : (Jvm.Cond.code ({ cls := "java/lang/StringUTF16", name := "compress", desc := "([CI[BII)I" } : Jvm.MethodName) jdk_52_method_21_code (7 : Nat) (Option.some Jvm.ClassFile.FieldType.int)).before args0 about1 = true := code_word (m := ⟨11, 3⟩) (meth := k11m3) (c := k11c3) (by decide +kernel) rfl rfl rfl (by decide +kernel)
set_option maxRecDepth 65536 in
theorem w_c20 : (Jvm.Cond.code ({ cls := "java/lang/StringUTF16", name := "coderFromArrayLen", desc := "([BI)B" } : Jvm.MethodName) jdk_52_method_15_code (2 : Nat) (Option.some Jvm.ClassFile.FieldType.byte)).before args0 about1 = true := code_word (m := ⟨11, 1⟩) (meth := k11m1) (c := k11c1) (by decide +kernel) rfl rfl rfl (by decide +kernel)
set_option maxRecDepth 65536 in
theorem w_c21 : (Jvm.Cond.code ({ cls := "java/lang/StringLatin1", name := "indexOfChar", desc := "([BIII)I" } : Jvm.MethodName) jdk_43_method_23_code (6 : Nat) (Option.some Jvm.ClassFile.FieldType.int)).before args0 about1 = true := code_word (m := ⟨9, 4⟩) (meth := k9m4) (c := k9c4) (by decide +kernel) rfl rfl rfl (by decide +kernel)
set_option maxRecDepth 65536 in
theorem w_c22 : (Jvm.Cond.code ({ cls := "java/lang/String", name := "substring", desc := "(II)Ljava/lang/String;" } : Jvm.MethodName) jdk_42_method_92_code (5 : Nat) (Option.some (Jvm.ClassFile.FieldType.object "java/lang/String"))).before args0 about1 = true := code_word (m := ⟨7, 6⟩) (meth := k7m6) (c := k7c6) (by decide +kernel) rfl rfl rfl (by decide +kernel)
set_option maxRecDepth 65536 in
theorem w_c23 : (Jvm.Cond.code ({ cls := "java/lang/String", name := "checkBoundsBeginEnd", desc := "(III)V" } : Jvm.MethodName) jdk_42_method_158_code (3 : Nat) (Option.none : Option Jvm.ClassFile.FieldType)).before args0 about1 = true := code_word (m := ⟨7, 13⟩) (meth := k7m13) (c := k7c13) (by decide +kernel) rfl rfl rfl (by decide +kernel)
set_option maxRecDepth 65536 in
theorem w_c24 : (Jvm.Cond.code ({ cls := "jdk/internal/util/Preconditions", name := "checkFromToIndex", desc := "(IIILjava/util/function/BiFunction;)I" } : Jvm.MethodName) jdk_41_method_12_code (4 : Nat) (Option.some Jvm.ClassFile.FieldType.int)).before args0 about1 = true := code_word (m := ⟨12, 2⟩) (meth := k12m2) (c := k12c2) (by decide +kernel) rfl rfl rfl (by decide +kernel)
set_option maxRecDepth 65536 in
theorem w_c25 : (Jvm.Cond.code ({ cls := "java/lang/StringLatin1", name := "newString", desc := "([BII)Ljava/lang/String;" } : Jvm.MethodName) jdk_43_method_47_code (3 : Nat) (Option.some (Jvm.ClassFile.FieldType.object "java/lang/String"))).before args0 about1 = true := code_word (m := ⟨9, 6⟩) (meth := k9m6) (c := k9c6) (by decide +kernel) rfl rfl rfl (by decide +kernel)
set_option maxRecDepth 65536 in
theorem w_c26 : (Jvm.Cond.code ({ cls := "java/util/Arrays", name := "copyOfRange", desc := "([BII)[B" } : Jvm.MethodName) jdk_65_method_132_code (3 : Nat) (Option.some (Jvm.ClassFile.FieldType.array Jvm.ClassFile.FieldType.byte))).before args0 about1 = true := code_word (m := ⟨13, 2⟩) (meth := k13m2) (c := k13c2) (by decide +kernel) rfl rfl rfl (by decide +kernel)
set_option maxRecDepth 65536 in
theorem w_c27 : (Jvm.Cond.code ({ cls := "java/util/Arrays", name := "copyOfRangeByte", desc := "([BII)[B" } : Jvm.MethodName) jdk_65_method_133_code (5 : Nat) (Option.some (Jvm.ClassFile.FieldType.array Jvm.ClassFile.FieldType.byte))).before args0 about1 = true := code_word (m := ⟨13, 3⟩) (meth := k13m3) (c := k13c3) (by decide +kernel) rfl rfl rfl (by decide +kernel)
set_option maxRecDepth 65536 in
theorem w_c28 : (Jvm.Cond.code ({ cls := "java/util/Arrays", name := "checkLength", desc := "(II)V" } : Jvm.MethodName) jdk_65_method_131_code (2 : Nat) (Option.none : Option Jvm.ClassFile.FieldType)).before args0 about1 = true := code_word (m := ⟨13, 1⟩) (meth := k13m1) (c := k13c1) (by decide +kernel) rfl rfl rfl (by decide +kernel)
set_option maxRecDepth 65536 in
theorem w_c29 : (Jvm.Cond.code ({ cls := "java/lang/String", name := "<init>", desc := "([BB)V" } : Jvm.MethodName) jdk_42_method_151_code (3 : Nat) (Option.none : Option Jvm.ClassFile.FieldType)).before args0 about1 = true := code_word (m := ⟨7, 9⟩) (meth := k7m9) (c := k7c9) (by decide +kernel) rfl rfl rfl (by decide +kernel)
set_option maxRecDepth 65536 in
theorem w_c30 : (Jvm.Cond.code ({ cls := "java/lang/String", name := "charAt", desc := "(I)C" } : Jvm.MethodName) jdk_42_method_56_code (2 : Nat) (Option.some Jvm.ClassFile.FieldType.char)).before args0 about1 = true := code_word (m := ⟨7, 3⟩) (meth := k7m3) (c := k7c3) (by decide +kernel) rfl rfl rfl (by decide +kernel)
set_option maxRecDepth 65536 in
theorem w_c31 : (Jvm.Cond.code ({ cls := "java/lang/StringLatin1", name := "charAt", desc := "([BI)C" } : Jvm.MethodName) jdk_43_method_2_code (2 : Nat) (Option.some Jvm.ClassFile.FieldType.char)).before args0 about1 = true := code_word (m := ⟨9, 1⟩) (meth := k9m1) (c := k9c1) (by decide +kernel) rfl rfl rfl (by decide +kernel)
set_option maxRecDepth 65536 in
theorem w_c32 : (Jvm.Cond.code ({ cls := "java/lang/String", name := "checkIndex", desc := "(II)V" } : Jvm.MethodName) jdk_42_method_155_code (2 : Nat) (Option.none : Option Jvm.ClassFile.FieldType)).before args0 about1 = true := code_word (m := ⟨7, 12⟩) (meth := k7m12) (c := k7c12) (by decide +kernel) rfl rfl rfl (by decide +kernel)
set_option maxRecDepth 65536 in
theorem w_c33 : (Jvm.Cond.code ({ cls := "jdk/internal/util/Preconditions", name := "checkIndex", desc := "(IILjava/util/function/BiFunction;)I" } : Jvm.MethodName) jdk_41_method_11_code (3 : Nat) (Option.some Jvm.ClassFile.FieldType.int)).before args0 about1 = true := code_word (m := ⟨12, 1⟩) (meth := k12m1) (c := k12c1) (by decide +kernel) rfl rfl rfl (by decide +kernel)
def codes1 : List Jvm.Cond := [Jvm.Cond.code x code maxLocals ret, Jvm.Cond.code ({ cls := "com/example/partwright/partwright/reader/HeaderValueTypeOfPinLaw", name := "draw", desc := "(I)C" } : Jvm.MethodName) method_2_code (3 : Nat) (Option.some Jvm.ClassFile.FieldType.char), Jvm.Cond.code ({ cls := "java/lang/String", name := "<init>", desc := "([C)V" } : Jvm.MethodName) jdk_42_method_3_code (2 : Nat) (Option.none : Option Jvm.ClassFile.FieldType), Jvm.Cond.code ({ cls := "java/lang/String", name := "<init>", desc := "([CIILjava/lang/Void;)V" } : Jvm.MethodName) jdk_42_method_149_code (6 : Nat) (Option.none : Option Jvm.ClassFile.FieldType), Jvm.Cond.code ({ cls := "java/lang/Object", name := "<init>", desc := "()V" } : Jvm.MethodName) object_method_1_code (1 : Nat) (Option.none : Option Jvm.ClassFile.FieldType), Jvm.Cond.code ({ cls := "com/example/partwright/partwright/reader/HeaderValue", name := "typeOf", desc := "(Ljava/lang/String;)Ljava/lang/String;" } : Jvm.MethodName) prog_8_method_2_code (3 : Nat) (Option.some (Jvm.ClassFile.FieldType.object "java/lang/String")), Jvm.Cond.code ({ cls := "java/lang/String", name := "indexOf", desc := "(I)I" } : Jvm.MethodName) jdk_42_method_79_code (2 : Nat) (Option.some Jvm.ClassFile.FieldType.int), Jvm.Cond.code ({ cls := "java/lang/String", name := "indexOf", desc := "(II)I" } : Jvm.MethodName) jdk_42_method_80_code (3 : Nat) (Option.some Jvm.ClassFile.FieldType.int), Jvm.Cond.code ({ cls := "java/lang/String", name := "isLatin1", desc := "()Z" } : Jvm.MethodName) jdk_42_method_154_code (1 : Nat) (Option.some Jvm.ClassFile.FieldType.boolean), Jvm.Cond.code ({ cls := "java/lang/String", name := "length", desc := "()I" } : Jvm.MethodName) jdk_42_method_54_code (1 : Nat) (Option.some Jvm.ClassFile.FieldType.int), Jvm.Cond.code ({ cls := "java/lang/String", name := "coder", desc := "()B" } : Jvm.MethodName) jdk_42_method_152_code (1 : Nat) (Option.some Jvm.ClassFile.FieldType.byte), Jvm.Cond.code ({ cls := "java/lang/StringLatin1", name := "indexOf", desc := "([BIII)I" } : Jvm.MethodName) jdk_43_method_22_code (4 : Nat) (Option.some Jvm.ClassFile.FieldType.int), Jvm.Cond.code ({ cls := "java/lang/StringLatin1", name := "canEncode", desc := "(I)Z" } : Jvm.MethodName) jdk_43_method_4_code (1 : Nat) (Option.some Jvm.ClassFile.FieldType.boolean), Jvm.Cond.code ({ cls := "java/lang/Math", name := "max", desc := "(II)I" } : Jvm.MethodName) jdk_29_method_65_code (2 : Nat) (Option.some Jvm.ClassFile.FieldType.int), Jvm.Cond.code ({ cls := "java/lang/Math", name := "min", desc := "(II)I" } : Jvm.MethodName) jdk_29_method_69_code (2 : Nat) (Option.some Jvm.ClassFile.FieldType.int), Jvm.Cond.code ({ cls := "java/lang/String", name := "trim", desc := "()Ljava/lang/String;" } : Jvm.MethodName) jdk_42_method_113_code (2 : Nat) (Option.some (Jvm.ClassFile.FieldType.object "java/lang/String")), Jvm.Cond.code ({ cls := "java/lang/StringLatin1", name := "trim", desc := "([B)Ljava/lang/String;" } : Jvm.MethodName) jdk_43_method_36_code (3 : Nat) (Option.some (Jvm.ClassFile.FieldType.object "java/lang/String")), Jvm.Cond.code ({ cls := "com/example/partwright/partwright/reader/HeaderValueTypeOfPinLaw", name := "same", desc := "(Ljava/lang/String;[CIII)Z" } : Jvm.MethodName) method_3_code (5 : Nat) (Option.some Jvm.ClassFile.FieldType.boolean), Jvm.Cond.code ({ cls := "java/lang/StringUTF16", name := "compress", desc := "([CII)[B" } : Jvm.MethodName) jdk_52_method_16_code (6 : Nat) (Option.some (Jvm.ClassFile.FieldType.array Jvm.ClassFile.FieldType.byte)), Jvm.Cond.code ({ cls := "java/lang/StringUTF16", name := "compress", desc := "([CI[BII)I" } : Jvm.MethodName) jdk_52_method_21_code (7 : Nat) (Option.some Jvm.ClassFile.FieldType.int), Jvm.Cond.code ({ cls := "java/lang/StringUTF16", name := "coderFromArrayLen", desc := "([BI)B" } : Jvm.MethodName) jdk_52_method_15_code (2 : Nat) (Option.some Jvm.ClassFile.FieldType.byte), Jvm.Cond.code ({ cls := "java/lang/StringLatin1", name := "indexOfChar", desc := "([BIII)I" } : Jvm.MethodName) jdk_43_method_23_code (6 : Nat) (Option.some Jvm.ClassFile.FieldType.int), Jvm.Cond.code ({ cls := "java/lang/String", name := "substring", desc := "(II)Ljava/lang/String;" } : Jvm.MethodName) jdk_42_method_92_code (5 : Nat) (Option.some (Jvm.ClassFile.FieldType.object "java/lang/String")), Jvm.Cond.code ({ cls := "java/lang/String", name := "checkBoundsBeginEnd", desc := "(III)V" } : Jvm.MethodName) jdk_42_method_158_code (3 : Nat) (Option.none : Option Jvm.ClassFile.FieldType), Jvm.Cond.code ({ cls := "jdk/internal/util/Preconditions", name := "checkFromToIndex", desc := "(IIILjava/util/function/BiFunction;)I" } : Jvm.MethodName) jdk_41_method_12_code (4 : Nat) (Option.some Jvm.ClassFile.FieldType.int), Jvm.Cond.code ({ cls := "java/lang/StringLatin1", name := "newString", desc := "([BII)Ljava/lang/String;" } : Jvm.MethodName) jdk_43_method_47_code (3 : Nat) (Option.some (Jvm.ClassFile.FieldType.object "java/lang/String")), Jvm.Cond.code ({ cls := "java/util/Arrays", name := "copyOfRange", desc := "([BII)[B" } : Jvm.MethodName) jdk_65_method_132_code (3 : Nat) (Option.some (Jvm.ClassFile.FieldType.array Jvm.ClassFile.FieldType.byte)), Jvm.Cond.code ({ cls := "java/util/Arrays", name := "copyOfRangeByte", desc := "([BII)[B" } : Jvm.MethodName) jdk_65_method_133_code (5 : Nat) (Option.some (Jvm.ClassFile.FieldType.array Jvm.ClassFile.FieldType.byte)), Jvm.Cond.code ({ cls := "java/util/Arrays", name := "checkLength", desc := "(II)V" } : Jvm.MethodName) jdk_65_method_131_code (2 : Nat) (Option.none : Option Jvm.ClassFile.FieldType), Jvm.Cond.code ({ cls := "java/lang/String", name := "<init>", desc := "([BB)V" } : Jvm.MethodName) jdk_42_method_151_code (3 : Nat) (Option.none : Option Jvm.ClassFile.FieldType), Jvm.Cond.code ({ cls := "java/lang/String", name := "charAt", desc := "(I)C" } : Jvm.MethodName) jdk_42_method_56_code (2 : Nat) (Option.some Jvm.ClassFile.FieldType.char), Jvm.Cond.code ({ cls := "java/lang/StringLatin1", name := "charAt", desc := "([BI)C" } : Jvm.MethodName) jdk_43_method_2_code (2 : Nat) (Option.some Jvm.ClassFile.FieldType.char), Jvm.Cond.code ({ cls := "java/lang/String", name := "checkIndex", desc := "(II)V" } : Jvm.MethodName) jdk_42_method_155_code (2 : Nat) (Option.none : Option Jvm.ClassFile.FieldType), Jvm.Cond.code ({ cls := "jdk/internal/util/Preconditions", name := "checkIndex", desc := "(IILjava/util/function/BiFunction;)I" } : Jvm.MethodName) jdk_41_method_11_code (3 : Nat) (Option.some Jvm.ClassFile.FieldType.int)]
set_option maxRecDepth 65536 in
theorem codes_eq : words1.filter isCode = codes1 := rfl
theorem w_codes : ∀ c ∈ words1.filter isCode, c.before args0 about1 = true := by
  rw [codes_eq]
  intro c hc
  simp only [codes1, List.mem_cons, List.not_mem_nil, or_false] at hc
  rcases hc with rfl | rfl | rfl | rfl | rfl | rfl | rfl | rfl | rfl | rfl | rfl | rfl | rfl | rfl | rfl | rfl | rfl | rfl | rfl | rfl | rfl | rfl | rfl | rfl | rfl | rfl | rfl | rfl | rfl | rfl | rfl | rfl | rfl | rfl
  · exact w_c0
  · exact w_c1
  · exact w_c2
  · exact w_c3
  · exact w_c4
  · exact w_c5
  · exact w_c6
  · exact w_c7
  · exact w_c8
  · exact w_c9
  · exact w_c10
  · exact w_c11
  · exact w_c12
  · exact w_c13
  · exact w_c14
  · exact w_c15
  · exact w_c16
  · exact w_c17
  · exact w_c18
  · exact w_c19
  · exact w_c20
  · exact w_c21
  · exact w_c22
  · exact w_c23
  · exact w_c24
  · exact w_c25
  · exact w_c26
  · exact w_c27
  · exact w_c28
  · exact w_c29
  · exact w_c30
  · exact w_c31
  · exact w_c32
  · exact w_c33
set_option maxRecDepth 65536 in
theorem w_t1 : (words1.take 24).all (fun c => isCode c || c.before args0 about1) = true := by decide +kernel
set_option maxRecDepth 65536 in
theorem w_t2 : ((words1.drop 24).take 24).all (fun c => isCode c || c.before args0 about1) = true := by decide +kernel
set_option maxRecDepth 65536 in
theorem w_t3 : (((words1.drop 24).drop 24).take 24).all (fun c => isCode c || c.before args0 about1) = true := by decide +kernel
set_option maxRecDepth 65536 in
theorem w_t4 : ((((words1.drop 24).drop 24).drop 24).take 24).all (fun c => isCode c || c.before args0 about1) = true := by decide +kernel
set_option maxRecDepth 65536 in
theorem w_t5 : (((((words1.drop 24).drop 24).drop 24).drop 24).take 24).all (fun c => isCode c || c.before args0 about1) = true := by decide +kernel
set_option maxRecDepth 65536 in
theorem w_t6 : ((((((words1.drop 24).drop 24).drop 24).drop 24).drop 24).take 24).all (fun c => isCode c || c.before args0 about1) = true := by decide +kernel
set_option maxRecDepth 65536 in
theorem w_t7 : ((((((words1.drop 24).drop 24).drop 24).drop 24).drop 24).drop 24).all (fun c => isCode c || c.before args0 about1) = true := by decide +kernel
theorem w_tables : (allAtoms (Jvm.Cond.code x code maxLocals ret :: tables_1)).before args0 about1 = true := by
  rw [allAtoms_all]
  show words1.all (fun c => c.before args0 about1) = true
  refine all_split ?_ w_codes
  rw [← List.take_append_drop 24 words1, List.all_append, w_t1, ← List.take_append_drop 24 (words1.drop 24), List.all_append, w_t2, ← List.take_append_drop 24 ((words1.drop 24).drop 24), List.all_append, w_t3, ← List.take_append_drop 24 (((words1.drop 24).drop 24).drop 24), List.all_append, w_t4, ← List.take_append_drop 24 ((((words1.drop 24).drop 24).drop 24).drop 24), List.all_append, w_t5, ← List.take_append_drop 24 (((((words1.drop 24).drop 24).drop 24).drop 24).drop 24), List.all_append, w_t6, w_t7]
  rfl
set_option maxRecDepth 65536 in
theorem w_rest : rest_1_c.before args0 about1 = true := by decide +kernel
set_option maxRecDepth 65536 in
theorem w_case : (Jvm.Cond.and given_1 narrow_1).before args0 about1 = true := by decide +kernel
set_option maxRecDepth 65536 in
theorem w_consts : constsHeld consts_1 about1 := Jvm.Lit.constsHeldB_iff.mp (by decide +kernel)
theorem w_applies : (headSpec (Jvm.Cond.code x code maxLocals ret :: tables_1) room_1).applies x e0.platform about1 = true :=
  (Spec.applies_iff w_frames).mpr ⟨w_running, w_runnable, w_alone, w_named, w_hears, w_ripe, w_room, w_tables⟩
theorem atStart : AtStart classFile x code maxLocals ret World_1 tables_1 room_1 Calls_1 rest_1 Pre_1 launch0 p0 e0 about1 theMethod args0 below0 :=
  ⟨lists_1, trivial, launch0.admits_env _ _ _, launch0.least_env, fairChoices_fair.cas, fairChoices_fair.clock, w_frames, w_args, w_heap, w_applies, ⟨w_consts, trivial⟩, w_rest, w_case⟩
end start1
theorem witness_1 : WitnessClaimed_1 := ⟨start1.p0, start1.e0, start1.about1, start1.theMethod, start1.args0, start1.below0, start1.atStart⟩
end Jvm.Pilot.@@N@@
