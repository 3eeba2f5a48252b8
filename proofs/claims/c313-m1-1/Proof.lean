import JvmDerived
import JvmDerived.Pilot.@@N@@Statement
import JvmDerived.Pilot.@@N@@Code
set_option linter.unusedVariables false
set_option linter.unusedSimpArgs false
namespace Jvm.RoadKit
open Sem ClassFile Op Lib Jvm.Stand Jvm.Free Jvm.LawKit
section Own
variable {p : Program} {l : Launch} {e : Env} {R : Room} {s : State} {m : MethodId} {args : Array Value} {below : List Frame} {meth : Method} {c : Code} {T : State} {locs : List Loc} {cells slots : Nat} {Q : Option Value → Heap → List Loc → Prop} {k n : Nat} {A B : State} {h : Heap}
/-- from the state A the run comes to its end, with what Q says -/
def Goes (p : Program) (e : Env) (below : List Frame) (s : State) (Q : Option Value → Heap → List Loc → Prop) (k n : Nat) (A : State) : Prop :=
  ∃ s₂ o, Steps p.tables e below A s₂ ∧ s₂.status = .running ∧ Ended s₂ below o ∧ ∃ v L, o = .returned v ∧ Q v s₂.heap L ∧ FrameEnd s o s₂ L k n
theorem Goes.step (q : ∀ t, Steps p.tables e below B t → Steps p.tables e below A t) (g : Goes p e below s Q k n B) : Goes p e below s Q k n A := by
  obtain ⟨s₂, o, h1, h2⟩ := g
  exact ⟨s₂, o, q _ h1, h2⟩
theorem Goes.via (q : Steps p.tables e below A B) (g : Goes p e below s Q k n B) : Goes p e below s Q k n A := by
  obtain ⟨s₂, o, h1, h2⟩ := g
  exact ⟨s₂, o, q.trans h1, h2⟩
theorem Goes.enter {g g' : JFrame} (q : g = g') (h : Goes p e below s Q k n (T.setTop g')) : Goes p e below s Q k n (T.setTop g) := q ▸ h
theorem Goes.out (X : Stand p l e R s m args below meth c T locs cells slots) (eT : T.heap = h) {v : Option Value} (hv : meth.sig.returnType = none → v = none) (hlk : meth.locks = false)
    (hs : ∀ fs, (∀ (f : JFrame) (acts : List Action), f.method = m → f.locked = none → f.entered = [] → (doReturn e (T.setTop f) acts v).1 = T.setFrames fs) → Steps p.tables e below A (T.setFrames fs)) (hk : cells ≤ k) (hn : slots ≤ n) (hQ : Q v h locs) : Goes p e below s Q k n A := by
  obtain ⟨fs, hr, hrun, hended, hW, hsame⟩ := X.leave (v := v) hv hlk
  exact ⟨_, _, hs fs hr, hrun, hended, _, _, rfl, (by show Q v T.heap locs; rw [eT]; exact hQ), ⟨_, rfl⟩, hW, hsame.mono hk hn⟩
theorem own_some {t : FieldType} {v : Option Value} (h : meth.sig.returnType = some t) : meth.sig.returnType = none → v = none := fun q => by rw [h] at q; cases q
theorem Goes.retI (X : Stand p l e R s m args below meth c T locs cells slots) (hx : p.tables.exec = Jvm.exec) (eT : T.heap = h) {pc : Nat} {Ls : Array Slot} {z : Int32} {rest : List Value} (hret : meth.sig.returnType = some .int) (hlk : meth.locks = false) (hd : decode c.code pc = .ok (.ireturn, 1)) (hk : cells ≤ k) (hn : slots ≤ n) (hQ : Q (some (.int z)) h locs) :
    Goes p e below s Q k n (T.setTop (mkF m pc Ls (.int z :: rest))) :=
  Goes.out X eT (own_some hret) hlk (fun fs hr => retOut X hx hret rfl (Or.inl ⟨rfl, Or.inl rfl, z, rfl⟩) hd hr) hk hn hQ
theorem Goes.retN (X : Stand p l e R s m args below meth c T locs cells slots) (hx : p.tables.exec = Jvm.exec) (eT : T.heap = h) {pc : Nat} {Ls : Array Slot} {z : Int32} {t : FieldType} {rest : List Value} (hret : meth.sig.returnType = some t) (ht : t = .boolean ∨ t = .byte ∨ t = .char ∨ t = .short) (hlk : meth.locks = false) (hd : decode c.code pc = .ok (.ireturn, 1)) (hk : cells ≤ k) (hn : slots ≤ n) (hQ : Q (some (.int (nar t z))) h locs) :
    Goes p e below s Q k n (T.setTop (mkF m pc Ls (.int z :: rest))) :=
  Goes.out X eT (own_some hret) hlk (fun fs hr => Jvm.RoadKit.retN X hx hret ht hd hr) hk hn hQ
theorem Goes.retV (X : Stand p l e R s m args below meth c T locs cells slots) (hx : p.tables.exec = Jvm.exec) (eT : T.heap = h) {pc : Nat} {Ls : Array Slot} (hret : meth.sig.returnType = none) (hlk : meth.locks = false) (hd : decode c.code pc = .ok (.return_, 1)) (hk : cells ≤ k) (hn : slots ≤ n) (hQ : Q none h locs) :
    Goes p e below s Q k n (T.setTop (mkF m pc Ls [])) :=
  Goes.out X eT (fun _ => rfl) hlk (fun fs hr => X.returnOut hx hret hd hr) hk hn hQ
theorem Goes.retJ (X : Stand p l e R s m args below meth c T locs cells slots) (hx : p.tables.exec = Jvm.exec) (eT : T.heap = h) {pc : Nat} {Ls : Array Slot} {z : Int64} {rest : List Value} (hret : meth.sig.returnType = some .long) (hlk : meth.locks = false) (hd : decode c.code pc = .ok (.lreturn, 1)) (hk : cells ≤ k) (hn : slots ≤ n) (hQ : Q (some (.long z)) h locs) :
    Goes p e below s Q k n (T.setTop (mkF m pc Ls (.long z :: rest))) :=
  Goes.out X eT (own_some hret) hlk (fun fs hr => retOut X hx hret rfl (Or.inr (Or.inl ⟨rfl, rfl, z, rfl⟩)) hd hr) hk hn hQ
theorem Goes.retD (X : Stand p l e R s m args below meth c T locs cells slots) (hx : p.tables.exec = Jvm.exec) (eT : T.heap = h) {pc : Nat} {Ls : Array Slot} {z : UInt64} {rest : List Value} (hret : meth.sig.returnType = some .double) (hlk : meth.locks = false) (hd : decode c.code pc = .ok (.dreturn, 1)) (hk : cells ≤ k) (hn : slots ≤ n) (hQ : Q (some (.double z)) h locs) :
    Goes p e below s Q k n (T.setTop (mkF m pc Ls (.double z :: rest))) :=
  Goes.out X eT (own_some hret) hlk (fun fs hr => retOut X hx hret rfl (Or.inr (Or.inr (Or.inl ⟨rfl, rfl, z, rfl⟩))) hd hr) hk hn hQ
theorem own_narR {t : FieldType} {w : Value} (h : t.isReference = true) : narrow t w = w := by cases t <;> first | rfl | (cases w <;> first | rfl | cases h)
theorem Goes.retA (X : Stand p l e R s m args below meth c T locs cells slots) (hx : p.tables.exec = Jvm.exec) (eT : T.heap = h) {pc : Nat} {Ls : Array Slot} {w : Value} {t : FieldType} {rest : List Value} (hret : meth.sig.returnType = some t) (ht : t.isReference = true) (hw : w.isRef = true) (hlk : meth.locks = false) (hd : decode c.code pc = .ok (.areturn, 1)) (hk : cells ≤ k) (hn : slots ≤ n) (hQ : Q (some w) h locs) :
    Goes p e below s Q k n (T.setTop (mkF m pc Ls (w :: rest))) :=
  Goes.out X eT (own_some hret) hlk (fun fs hr => retOut X hx hret (own_narR ht) (Or.inr (Or.inr (Or.inr (Or.inr ⟨rfl, ht, hw⟩)))) hd hr) hk hn hQ
theorem own_z {Z : State} {n0 : Nat} (O : Old Z n0 h) : n0 ≤ h.size := O.1 ▸ O.2.1
end Own
end Jvm.RoadKit
namespace Jvm.Pilot.@@N@@
open Jvm Jvm.ClassFile Sem Op Lib Jvm.Free Jvm.Stand Jvm.LawKit Jvm.RoadKit Bundle Jvm.Pilot.@@N@@.Jvm.D
theorem own_eqI {args : Array Value} {first s : State} {o : Option Outcome} {idx : List Nat} {t : Term} {v : Int32} (h : (Jvm.Cond.eq t (.int v)).value args first o s idx = some true) : t.eval args first o idx s = some (.int v) := by
  obtain ⟨x, y, hx, hy, k1, k2⟩ := cmp_v (Or.inl h)
  rw [Term.int_eval] at hy
  obtain rfl := Option.some.inj hy
  obtain ⟨z, rfl⟩ := k2
  have q : z = v := by simpa [Jvm.Cond.value, hx, Term.int_eval] using h
  rw [hx, q]
theorem own_eqR {args : Array Value} {first s : State} {o : Option Outcome} {idx : List Nat} {t u : Term} {a : Addr} (hu : u.eval args first o idx s = some (.ref a)) (h : (Jvm.Cond.eq t u).value args first o s idx = some true) : t.eval args first o idx s = some (.ref a) := by
  obtain ⟨x, y, hx, hy, k1, k2⟩ := cmp_v (Or.inl h)
  obtain rfl := Option.some.inj (hu.symm.trans hy)
  obtain ⟨-, q⟩ := k2
  have q2 := gotT (eq_R hx hu q rfl) h
  rw [hx, q2]
theorem own_len {args : Array Value} {s : State} {t : Term} {n : Int32} {a : Addr} {cl : Cell} {ty : FieldType} (A : Arr s s.heap a cl ty) (ev : t.eval args s none [] s = some (.ref a)) (h : (Jvm.Cond.eq (.length t) (.int n)).value args s none s [] = some true) : cl.slots.size < 2 ^ 31 ∧ cl.slots.size.toInt32 = n := by
  have q := own_eqI h
  have f := A.fin (Vm.Alike.refl _)
  by_cases hl : cl.slots.size < 2 ^ 31
  · rw [len_f ev f hl] at q
    exact ⟨hl, Value.int.inj (Option.some.inj q)⟩
  · simp [Term.eval, ev, f, hl] at q
theorem own_el {args : Array Value} {s : State} {t : Term} {j v : Int32} {a : Addr} {cl : Cell} {ty : FieldType} (A : Arr s s.heap a cl ty) (ev : t.eval args s none [] s = some (.ref a)) (h : (Jvm.Cond.eq (.elem t (.int j)) (.int v)).value args s none s [] = some true) : cl.slots[j.toNatClampNeg]? = some (.int v) := (elem_in (own_eqI h) ev (Term.int_eval j) A.1).2
theorem own_elR {args : Array Value} {s : State} {t u : Term} {j : Int32} {a b : Addr} {cl : Cell} {ty : FieldType} (A : Arr s s.heap a cl ty) (ev : t.eval args s none [] s = some (.ref a)) (hu : u.eval args s none [] s = some (.ref b)) (h : (Jvm.Cond.eq (.elem t (.int j)) u).value args s none s [] = some true) : cl.slots[j.toNatClampNeg]? = some (.ref b) := (elem_in (own_eqR hu h) ev (Term.int_eval j) A.1).2
def OwnSt (Z : State) (a_ONCE : Addr) (a_OPTIONAL : Addr) (a_ONE_OR_MORE : Addr) (a_ZERO_OR_MORE : Addr) : Prop := Sta Z Z.heap "com/example/fences_for_xpath/fencesforxpath/Particle$Occurrence" "ONCE" "Lcom/example/fences_for_xpath/fencesforxpath/Particle$Occurrence;" (.ref a_ONCE) ∧ Exa Z Z.heap a_ONCE "com/example/fences_for_xpath/fencesforxpath/Particle$Occurrence" ∧ Sta Z Z.heap "com/example/fences_for_xpath/fencesforxpath/Particle$Occurrence" "OPTIONAL" "Lcom/example/fences_for_xpath/fencesforxpath/Particle$Occurrence;" (.ref a_OPTIONAL) ∧ Exa Z Z.heap a_OPTIONAL "com/example/fences_for_xpath/fencesforxpath/Particle$Occurrence" ∧ Fld Z Z.heap a_OPTIONAL "java/lang/Enum" "ordinal" "I" (.int (1 : Int32)) ∧ Fld Z Z.heap a_ONCE "java/lang/Enum" "ordinal" "I" (.int (0 : Int32)) ∧ Sta Z Z.heap "com/example/fences_for_xpath/fencesforxpath/Particle$Occurrence" "ONE_OR_MORE" "Lcom/example/fences_for_xpath/fencesforxpath/Particle$Occurrence;" (.ref a_ONE_OR_MORE) ∧ Exa Z Z.heap a_ONE_OR_MORE "com/example/fences_for_xpath/fencesforxpath/Particle$Occurrence" ∧ Fld Z Z.heap a_ONE_OR_MORE "java/lang/Enum" "ordinal" "I" (.int (3 : Int32)) ∧ Sta Z Z.heap "com/example/fences_for_xpath/fencesforxpath/Particle$Occurrence" "ZERO_OR_MORE" "Lcom/example/fences_for_xpath/fencesforxpath/Particle$Occurrence;" (.ref a_ZERO_OR_MORE) ∧ Exa Z Z.heap a_ZERO_OR_MORE "com/example/fences_for_xpath/fencesforxpath/Particle$Occurrence" ∧ Fld Z Z.heap a_ZERO_OR_MORE "java/lang/Enum" "ordinal" "I" (.int (2 : Int32))
theorem own_m3 {x z : Int32} (h : z = (x &&& (3 : Int32))) : z = 0 ∨ z = 1 ∨ z = 2 ∨ z = 3 := by
  have a := c_mask x 3 2 (by decide) (by decide)
  rw [← h] at a
  have q : z.toInt = 0 ∨ z.toInt = 1 ∨ z.toInt = 2 ∨ z.toInt = 3 := by omega
  rcases q with q | q | q | q
  · exact Or.inl (Int32.toInt_inj.mp q)
  · exact Or.inr (Or.inl (Int32.toInt_inj.mp q))
  · exact Or.inr (Or.inr (Or.inl (Int32.toInt_inj.mp q)))
  · exact Or.inr (Or.inr (Or.inr (Int32.toInt_inj.mp q)))
def own_pick (i : Int32) (a b c d : Addr) : Addr := if i = 0 then a else if i = 1 then b else if i = 2 then c else d
def own_opt (x a b c d : Addr) : Addr := if x = a then b else if x = d then c else x
def own_min (x a d : Addr) : Int32 := if x = a then 1 else if x = d then 1 else 0
def own_max (x a b : Addr) : Int32 := if x = a then 1 else if x = b then 1 else 2
theorem d1_0 : decode method_3_code 0 = .ok (.iload_n 0, 1) := by decide +kernel
theorem d1_1 : decode method_3_code 1 = .ok (.iconst 3, 1) := by decide +kernel
theorem d1_2 : decode method_3_code 2 = .ok (.iand, 1) := by decide +kernel
theorem d1_3 : decode method_3_code 3 = .ok (.istore_n 1, 1) := by decide +kernel
theorem d1_4 : decode method_3_code 4 = .ok (.iload_n 1, 1) := by decide +kernel
theorem d1_5 : decode method_3_code 5 = .ok (.ifCond .ne 7, 3) := by decide +kernel
theorem d1_8 : decode method_3_code 8 = .ok (.getstatic 26, 3) := by decide +kernel
theorem d1_11 : decode method_3_code 11 = .ok (.areturn, 1) := by decide +kernel
theorem d1_12 : decode method_3_code 12 = .ok (.iload_n 1, 1) := by decide +kernel
theorem d1_13 : decode method_3_code 13 = .ok (.iconst 1, 1) := by decide +kernel
theorem d1_14 : decode method_3_code 14 = .ok (.if_icmp .ne 7, 3) := by decide +kernel
theorem d1_17 : decode method_3_code 17 = .ok (.getstatic 30, 3) := by decide +kernel
theorem d1_20 : decode method_3_code 20 = .ok (.areturn, 1) := by decide +kernel
theorem d1_21 : decode method_3_code 21 = .ok (.iload_n 1, 1) := by decide +kernel
theorem d1_22 : decode method_3_code 22 = .ok (.iconst 2, 1) := by decide +kernel
theorem d1_23 : decode method_3_code 23 = .ok (.if_icmp .ne 7, 3) := by decide +kernel
theorem d1_26 : decode method_3_code 26 = .ok (.getstatic 33, 3) := by decide +kernel
theorem d1_29 : decode method_3_code 29 = .ok (.areturn, 1) := by decide +kernel
theorem d1_30 : decode method_3_code 30 = .ok (.getstatic 36, 3) := by decide +kernel
theorem d1_33 : decode method_3_code 33 = .ok (.areturn, 1) := by decide +kernel
theorem pn_OccurrenceOptionalPinLaw : plainName "com/example/fences_for_xpath/fencesforxpath/OccurrenceOptionalPinLaw" = true := by first | (simp [plainName, overriddenIn]; done) | decide +kernel
theorem ef_rm1 (m : MethodId) (x0 : Int32) : entryFrame m #[(.int x0)] 2 = mkF m 0 #[.val (.int x0), .unset] [] := by first | (simp [entryFrame, mkF, argsToLocals, Value.category]; done) | rfl
def Q1 (Z : State) (p1 : Int32) (a_ONCE : Addr) (a_OPTIONAL : Addr) (a_ONE_OR_MORE : Addr) (a_ZERO_OR_MORE : Addr) (h0 : Heap) (n0 : Nat) (v : Option Value) (h : Heap) (L : List Loc) : Prop := v = some (.ref (own_pick (p1 &&& (3 : Int32)) a_ONCE a_OPTIONAL a_ZERO_OR_MORE a_ONE_OR_MORE)) ∧ Fr n0 L ∧ h = h0
set_option maxRecDepth 65536 in
set_option maxHeartbeats 40000000 in
theorem rm1 (l : Launch) (Z : State) (a0 : Array Value) (hw : ∀ d ∈ tables_1, d.before a0 Z = true) (ws : List Jvm.Cond) (p1 : Int32) (a_ONCE : Addr) (a_OPTIONAL : Addr) (a_ONE_OR_MORE : Addr) (a_ZERO_OR_MORE : Addr) (h0 : Heap) (n0 : Nat) (O0 : Old Z n0 h0) (FS : OwnSt Z a_ONCE a_OPTIONAL a_ONE_OR_MORE a_ZERO_OR_MORE) :
    MetFree l (⟨"com/example/fences_for_xpath/fencesforxpath/OccurrenceOptionalPinLaw", "pick", "(I)Lcom/example/fences_for_xpath/fencesforxpath/Particle$Occurrence;"⟩ : MethodName) (head1 (Jvm.Cond.code (⟨"com/example/fences_for_xpath/fencesforxpath/OccurrenceOptionalPinLaw", "pick", "(I)Lcom/example/fences_for_xpath/fencesforxpath/Particle$Occurrence;"⟩ : MethodName) method_3_code 2 (some (.object "com/example/fences_for_xpath/fencesforxpath/Particle$Occurrence")) :: ws) ({ frames := 0, cells := 0, slots := 0, locals := 0 } : Room)) (fun a U => a = #[(.int p1)] ∧ Z.Warmed39 U.vm ∧ U.heap = h0) (fun _ _ _ _ _ => True) (fun _ U o U' => ∃ v L, o = .returned v ∧ Q1 Z p1 a_ONCE a_OPTIONAL a_ONE_OR_MORE a_ZERO_OR_MORE h0 n0 v U'.heap L ∧ FrameEnd U o U' L ({ frames := 0, cells := 0, slots := 0, locals := 0 } : Room).cells ({ frames := 0, cells := 0, slots := 0, locals := 0 } : Room).slots) := by
  refine MetFree.of_bodySF (plainFor_of_name pn_OccurrenceOptionalPinLaw) hisR ?_
  intro p e s m args below meth c s₁ Bd hml0 hP hK
  obtain ⟨rfl, hZ, hh⟩ := hP
  have hx := Bd.exec
  have hby := Bd.bytes
  have hlk : meth.locks = false := BodyLoose.notSynchronized Bd
  have hml : c.maxLocals = 2 := hml0
  have hown : s.vm.findClass "com/example/fences_for_xpath/fencesforxpath/OccurrenceOptionalPinLaw" = some m.cls := findClass_of_methodNamed Bd.named
  have hnm := (name_of_methodNamed Bd.named Bd.method).1
  have X0 : Stand p l e ({ frames := 0, cells := 0, slots := 0, locals := 0 } : Room) s m #[(.int p1)] below meth c s₁ [] 0 0 := Stand.of_body Bd
  have e0 : s₁.heap = h0 := by rw [← hh, Bd.state]; rfl
  have N0 := Fr.nil n0
  show Goes p e below s (Q1 Z p1 a_ONCE a_OPTIONAL a_ONE_OR_MORE a_ZERO_OR_MORE h0 n0) ({ frames := 0, cells := 0, slots := 0, locals := 0 } : Room).cells ({ frames := 0, cells := 0, slots := 0, locals := 0 } : Room).slots (s₁.setTop (entryFrame m #[(.int p1)] 2))
  refine Goes.enter (g' := (mkF m 0 #[.val (.int p1), .unset] [])) (ef_rm1 m p1) ?_
  have FS0 := FS
  obtain ⟨S_ONCE, E_ONCE, S_OPTIONAL, E_OPTIONAL, F_OPTIONAL_ordinal, F_ONCE_ordinal, S_ONE_OR_MORE, E_ONE_OR_MORE, F_ONE_OR_MORE_ordinal, S_ZERO_OR_MORE, E_ZERO_OR_MORE, F_ZERO_OR_MORE_ordinal⟩ := FS0
  have ne_a_OPTIONAL_a_ONCE : a_OPTIONAL ≠ a_ONCE := Fld.ne F_OPTIONAL_ordinal F_ONCE_ordinal (by decide)
  have ne_a_OPTIONAL_a_ONE_OR_MORE : a_OPTIONAL ≠ a_ONE_OR_MORE := Fld.ne F_OPTIONAL_ordinal F_ONE_OR_MORE_ordinal (by decide)
  have ne_a_OPTIONAL_a_ZERO_OR_MORE : a_OPTIONAL ≠ a_ZERO_OR_MORE := Fld.ne F_OPTIONAL_ordinal F_ZERO_OR_MORE_ordinal (by decide)
  have ne_a_ONCE_a_ONE_OR_MORE : a_ONCE ≠ a_ONE_OR_MORE := Fld.ne F_ONCE_ordinal F_ONE_OR_MORE_ordinal (by decide)
  have ne_a_ONCE_a_ZERO_OR_MORE : a_ONCE ≠ a_ZERO_OR_MORE := Fld.ne F_ONCE_ordinal F_ZERO_OR_MORE_ordinal (by decide)
  have ne_a_ONE_OR_MORE_a_ZERO_OR_MORE : a_ONE_OR_MORE ≠ a_ZERO_OR_MORE := Fld.ne F_ONE_OR_MORE_ordinal F_ZERO_OR_MORE_ordinal (by decide)
  refine Goes.step (B := s₁.setTop (mkF m 1 #[.val (.int p1), .unset] [(.int p1)])) (fun _ k => XS.iloadN X0.here hx rfl (hb hby d1_0) rfl k) ?_
  refine Goes.step (B := s₁.setTop (mkF m 2 #[.val (.int p1), .unset] [(.int (3 : Int32)), (.int p1)])) (fun _ k => XS.iconst X0.here hx rfl (hb hby d1_1) k) ?_
  refine Goes.step (B := s₁.setTop (mkF m 3 #[.val (.int p1), .unset] [(.int (p1 &&& (3 : Int32)))])) (fun _ k => XS.iand X0.here hx rfl (hb hby d1_2) rfl k) ?_
  obtain ⟨iw, hiw⟩ : ∃ z, z = (p1 &&& (3 : Int32)) := ⟨_, rfl⟩
  rw [← hiw]
  rcases own_m3 hiw with rfl | rfl | rfl | rfl
  · refine Goes.step (B := s₁.setTop (mkF m 4 #[.val (.int p1), .val (.int (0 : Int32))] [])) (fun _ k => XS.istoreN X0.here hx rfl (hb hby d1_3) rfl (l' := #[.val (.int p1), .val (.int (0 : Int32))]) rfl k) ?_
    refine Goes.step (B := s₁.setTop (mkF m 5 #[.val (.int p1), .val (.int (0 : Int32))] [(.int (0 : Int32))])) (fun _ k => XS.iloadN X0.here hx rfl (hb hby d1_4) rfl k) ?_
    refine Goes.step (B := s₁.setTop (mkF m 8 #[.val (.int p1), .val (.int (0 : Int32))] [])) (fun _ k => XS.ifNo X0.here hx rfl (hb hby d1_5) rfl ((if0 _ _).trans (teq (by decide)).2) k) ?_
    have f1 := S_ONCE.ext O0.2
    obtain ⟨T2, X2, e2, st2⟩ := getS2 X0 hx hZ hown (host := "") (Or.inl (hw _ (List.mem_of_getElem? (i := 4) rfl))) Via.refl e0 f1 (g := (mkF m 8 #[.val (.int p1), .val (.int (0 : Int32))] [])) rfl (hb hby d1_8)
    refine Goes.step (B := T2.setTop (mkF m 11 #[.val (.int p1), .val (.int (0 : Int32))] [(.ref a_ONCE)])) st2 ?_
    exact Goes.retA X2 hx e2 Bd.returns rfl rfl hlk (hb hby d1_11) (by decide) (by decide) (⟨(by rw [← hiw]; rfl), N0, rfl⟩)
  · refine Goes.step (B := s₁.setTop (mkF m 4 #[.val (.int p1), .val (.int (1 : Int32))] [])) (fun _ k => XS.istoreN X0.here hx rfl (hb hby d1_3) rfl (l' := #[.val (.int p1), .val (.int (1 : Int32))]) rfl k) ?_
    refine Goes.step (B := s₁.setTop (mkF m 5 #[.val (.int p1), .val (.int (1 : Int32))] [(.int (1 : Int32))])) (fun _ k => XS.iloadN X0.here hx rfl (hb hby d1_4) rfl k) ?_
    refine Goes.step (B := s₁.setTop (mkF m 12 #[.val (.int p1), .val (.int (1 : Int32))] [])) (fun _ k => XS.ifYes X0.here hx rfl (pc0 := 5) (pc' := 12) rfl (hb hby d1_5) rfl ((if0 _ _).trans (feq (by decide)).2) (by decide) (by decide) k) ?_
    refine Goes.step (B := s₁.setTop (mkF m 13 #[.val (.int p1), .val (.int (1 : Int32))] [(.int (1 : Int32))])) (fun _ k => XS.iloadN X0.here hx rfl (hb hby d1_12) rfl k) ?_
    refine Goes.step (B := s₁.setTop (mkF m 14 #[.val (.int p1), .val (.int (1 : Int32))] [(.int (1 : Int32)), (.int (1 : Int32))])) (fun _ k => XS.iconst X0.here hx rfl (hb hby d1_13) k) ?_
    refine Goes.step (B := s₁.setTop (mkF m 17 #[.val (.int p1), .val (.int (1 : Int32))] [])) (fun _ k => XS.icmpNo X0.here hx rfl (hb hby d1_14) rfl (teq (by decide)).2 k) ?_
    have f3 := S_OPTIONAL.ext O0.2
    obtain ⟨T4, X4, e4, st4⟩ := getS2 X0 hx hZ hown (host := "") (Or.inl (hw _ (List.mem_of_getElem? (i := 23) rfl))) Via.refl e0 f3 (g := (mkF m 17 #[.val (.int p1), .val (.int (1 : Int32))] [])) rfl (hb hby d1_17)
    refine Goes.step (B := T4.setTop (mkF m 20 #[.val (.int p1), .val (.int (1 : Int32))] [(.ref a_OPTIONAL)])) st4 ?_
    exact Goes.retA X4 hx e4 Bd.returns rfl rfl hlk (hb hby d1_20) (by decide) (by decide) (⟨(by rw [← hiw]; rfl), N0, rfl⟩)
  · refine Goes.step (B := s₁.setTop (mkF m 4 #[.val (.int p1), .val (.int (2 : Int32))] [])) (fun _ k => XS.istoreN X0.here hx rfl (hb hby d1_3) rfl (l' := #[.val (.int p1), .val (.int (2 : Int32))]) rfl k) ?_
    refine Goes.step (B := s₁.setTop (mkF m 5 #[.val (.int p1), .val (.int (2 : Int32))] [(.int (2 : Int32))])) (fun _ k => XS.iloadN X0.here hx rfl (hb hby d1_4) rfl k) ?_
    refine Goes.step (B := s₁.setTop (mkF m 12 #[.val (.int p1), .val (.int (2 : Int32))] [])) (fun _ k => XS.ifYes X0.here hx rfl (pc0 := 5) (pc' := 12) rfl (hb hby d1_5) rfl ((if0 _ _).trans (feq (by decide)).2) (by decide) (by decide) k) ?_
    refine Goes.step (B := s₁.setTop (mkF m 13 #[.val (.int p1), .val (.int (2 : Int32))] [(.int (2 : Int32))])) (fun _ k => XS.iloadN X0.here hx rfl (hb hby d1_12) rfl k) ?_
    refine Goes.step (B := s₁.setTop (mkF m 14 #[.val (.int p1), .val (.int (2 : Int32))] [(.int (1 : Int32)), (.int (2 : Int32))])) (fun _ k => XS.iconst X0.here hx rfl (hb hby d1_13) k) ?_
    refine Goes.step (B := s₁.setTop (mkF m 21 #[.val (.int p1), .val (.int (2 : Int32))] [])) (fun _ k => XS.icmpYes X0.here hx rfl (pc0 := 14) (pc' := 21) rfl (hb hby d1_14) rfl (feq (by decide)).2 (by decide) (by decide) k) ?_
    refine Goes.step (B := s₁.setTop (mkF m 22 #[.val (.int p1), .val (.int (2 : Int32))] [(.int (2 : Int32))])) (fun _ k => XS.iloadN X0.here hx rfl (hb hby d1_21) rfl k) ?_
    refine Goes.step (B := s₁.setTop (mkF m 23 #[.val (.int p1), .val (.int (2 : Int32))] [(.int (2 : Int32)), (.int (2 : Int32))])) (fun _ k => XS.iconst X0.here hx rfl (hb hby d1_22) k) ?_
    refine Goes.step (B := s₁.setTop (mkF m 26 #[.val (.int p1), .val (.int (2 : Int32))] [])) (fun _ k => XS.icmpNo X0.here hx rfl (hb hby d1_23) rfl (teq (by decide)).2 k) ?_
    have f5 := S_ZERO_OR_MORE.ext O0.2
    obtain ⟨T6, X6, e6, st6⟩ := getS2 X0 hx hZ hown (host := "") (Or.inl (hw _ (List.mem_of_getElem? (i := 27) rfl))) Via.refl e0 f5 (g := (mkF m 26 #[.val (.int p1), .val (.int (2 : Int32))] [])) rfl (hb hby d1_26)
    refine Goes.step (B := T6.setTop (mkF m 29 #[.val (.int p1), .val (.int (2 : Int32))] [(.ref a_ZERO_OR_MORE)])) st6 ?_
    exact Goes.retA X6 hx e6 Bd.returns rfl rfl hlk (hb hby d1_29) (by decide) (by decide) (⟨(by rw [← hiw]; rfl), N0, rfl⟩)
  · refine Goes.step (B := s₁.setTop (mkF m 4 #[.val (.int p1), .val (.int (3 : Int32))] [])) (fun _ k => XS.istoreN X0.here hx rfl (hb hby d1_3) rfl (l' := #[.val (.int p1), .val (.int (3 : Int32))]) rfl k) ?_
    refine Goes.step (B := s₁.setTop (mkF m 5 #[.val (.int p1), .val (.int (3 : Int32))] [(.int (3 : Int32))])) (fun _ k => XS.iloadN X0.here hx rfl (hb hby d1_4) rfl k) ?_
    refine Goes.step (B := s₁.setTop (mkF m 12 #[.val (.int p1), .val (.int (3 : Int32))] [])) (fun _ k => XS.ifYes X0.here hx rfl (pc0 := 5) (pc' := 12) rfl (hb hby d1_5) rfl ((if0 _ _).trans (feq (by decide)).2) (by decide) (by decide) k) ?_
    refine Goes.step (B := s₁.setTop (mkF m 13 #[.val (.int p1), .val (.int (3 : Int32))] [(.int (3 : Int32))])) (fun _ k => XS.iloadN X0.here hx rfl (hb hby d1_12) rfl k) ?_
    refine Goes.step (B := s₁.setTop (mkF m 14 #[.val (.int p1), .val (.int (3 : Int32))] [(.int (1 : Int32)), (.int (3 : Int32))])) (fun _ k => XS.iconst X0.here hx rfl (hb hby d1_13) k) ?_
    refine Goes.step (B := s₁.setTop (mkF m 21 #[.val (.int p1), .val (.int (3 : Int32))] [])) (fun _ k => XS.icmpYes X0.here hx rfl (pc0 := 14) (pc' := 21) rfl (hb hby d1_14) rfl (feq (by decide)).2 (by decide) (by decide) k) ?_
    refine Goes.step (B := s₁.setTop (mkF m 22 #[.val (.int p1), .val (.int (3 : Int32))] [(.int (3 : Int32))])) (fun _ k => XS.iloadN X0.here hx rfl (hb hby d1_21) rfl k) ?_
    refine Goes.step (B := s₁.setTop (mkF m 23 #[.val (.int p1), .val (.int (3 : Int32))] [(.int (2 : Int32)), (.int (3 : Int32))])) (fun _ k => XS.iconst X0.here hx rfl (hb hby d1_22) k) ?_
    refine Goes.step (B := s₁.setTop (mkF m 30 #[.val (.int p1), .val (.int (3 : Int32))] [])) (fun _ k => XS.icmpYes X0.here hx rfl (pc0 := 23) (pc' := 30) rfl (hb hby d1_23) rfl (feq (by decide)).2 (by decide) (by decide) k) ?_
    have f7 := S_ONE_OR_MORE.ext O0.2
    obtain ⟨T8, X8, e8, st8⟩ := getS2 X0 hx hZ hown (host := "") (Or.inl (hw _ (List.mem_of_getElem? (i := 18) rfl))) Via.refl e0 f7 (g := (mkF m 30 #[.val (.int p1), .val (.int (3 : Int32))] [])) rfl (hb hby d1_30)
    refine Goes.step (B := T8.setTop (mkF m 33 #[.val (.int p1), .val (.int (3 : Int32))] [(.ref a_ONE_OR_MORE)])) st8 ?_
    exact Goes.retA X8 hx e8 Bd.returns rfl rfl hlk (hb hby d1_33) (by decide) (by decide) (⟨(by rw [← hiw]; rfl), N0, rfl⟩)
theorem d2_0 : decode prog_19_method_4_code 0 = .ok (.aload_n 0, 1) := by decide +kernel
theorem d2_1 : decode prog_19_method_4_code 1 = .ok (.astore_n 1, 1) := by decide +kernel
theorem d2_2 : decode prog_19_method_4_code 2 = .ok (.aload_n 0, 1) := by decide +kernel
theorem d2_3 : decode prog_19_method_4_code 3 = .ok (.getstatic 3, 3) := by decide +kernel
theorem d2_6 : decode prog_19_method_4_code 6 = .ok (.if_acmp .ne 10, 3) := by decide +kernel
theorem d2_9 : decode prog_19_method_4_code 9 = .ok (.getstatic 7, 3) := by decide +kernel
theorem d2_12 : decode prog_19_method_4_code 12 = .ok (.astore_n 1, 1) := by decide +kernel
theorem d2_13 : decode prog_19_method_4_code 13 = .ok (.goto 14, 3) := by decide +kernel
theorem d2_27 : decode prog_19_method_4_code 27 = .ok (.aload_n 1, 1) := by decide +kernel
theorem d2_28 : decode prog_19_method_4_code 28 = .ok (.areturn, 1) := by decide +kernel
theorem d2_16 : decode prog_19_method_4_code 16 = .ok (.aload_n 0, 1) := by decide +kernel
theorem d2_17 : decode prog_19_method_4_code 17 = .ok (.getstatic 13, 3) := by decide +kernel
theorem d2_20 : decode prog_19_method_4_code 20 = .ok (.if_acmp .ne 7, 3) := by decide +kernel
theorem d2_23 : decode prog_19_method_4_code 23 = .ok (.getstatic 10, 3) := by decide +kernel
theorem d2_26 : decode prog_19_method_4_code 26 = .ok (.astore_n 1, 1) := by decide +kernel
theorem pn_Particle_Occurrence : plainName "com/example/fences_for_xpath/fencesforxpath/Particle$Occurrence" = true := by first | (simp [plainName, overriddenIn]; done) | decide +kernel
theorem ef_rm2 (m : MethodId) (x0 : Addr) : entryFrame m #[(.ref x0)] 2 = mkF m 0 #[.val (.ref x0), .unset] [] := by first | (simp [entryFrame, mkF, argsToLocals, Value.category]; done) | rfl
def Q2 (Z : State) (a1 : Addr) (a_ONCE : Addr) (a_OPTIONAL : Addr) (a_ONE_OR_MORE : Addr) (a_ZERO_OR_MORE : Addr) (h0 : Heap) (n0 : Nat) (v : Option Value) (h : Heap) (L : List Loc) : Prop := v = some (.ref (own_opt a1 a_ONCE a_OPTIONAL a_ZERO_OR_MORE a_ONE_OR_MORE)) ∧ Fr n0 L ∧ h = h0
set_option maxRecDepth 65536 in
set_option maxHeartbeats 40000000 in
theorem rm2 (l : Launch) (Z : State) (a0 : Array Value) (hw : ∀ d ∈ tables_1, d.before a0 Z = true) (ws : List Jvm.Cond) (a1 : Addr) (a_ONCE : Addr) (a_OPTIONAL : Addr) (a_ONE_OR_MORE : Addr) (a_ZERO_OR_MORE : Addr) (h0 : Heap) (n0 : Nat) (O0 : Old Z n0 h0) (FS : OwnSt Z a_ONCE a_OPTIONAL a_ONE_OR_MORE a_ZERO_OR_MORE) :
    MetFree l (⟨"com/example/fences_for_xpath/fencesforxpath/Particle$Occurrence", "optional", "()Lcom/example/fences_for_xpath/fencesforxpath/Particle$Occurrence;"⟩ : MethodName) (head1 (Jvm.Cond.code (⟨"com/example/fences_for_xpath/fencesforxpath/Particle$Occurrence", "optional", "()Lcom/example/fences_for_xpath/fencesforxpath/Particle$Occurrence;"⟩ : MethodName) prog_19_method_4_code 2 (some (.object "com/example/fences_for_xpath/fencesforxpath/Particle$Occurrence")) :: ws) ({ frames := 0, cells := 0, slots := 0, locals := 0 } : Room)) (fun a U => a = #[(.ref a1)] ∧ Z.Warmed39 U.vm ∧ U.heap = h0) (fun _ _ _ _ _ => True) (fun _ U o U' => ∃ v L, o = .returned v ∧ Q2 Z a1 a_ONCE a_OPTIONAL a_ONE_OR_MORE a_ZERO_OR_MORE h0 n0 v U'.heap L ∧ FrameEnd U o U' L ({ frames := 0, cells := 0, slots := 0, locals := 0 } : Room).cells ({ frames := 0, cells := 0, slots := 0, locals := 0 } : Room).slots) := by
  refine MetFree.of_bodySF (plainFor_of_name pn_Particle_Occurrence) hisR ?_
  intro p e s m args below meth c s₁ Bd hml0 hP hK
  obtain ⟨rfl, hZ, hh⟩ := hP
  have hx := Bd.exec
  have hby := Bd.bytes
  have hlk : meth.locks = false := BodyLoose.notSynchronized Bd
  have hml : c.maxLocals = 2 := hml0
  have hown : s.vm.findClass "com/example/fences_for_xpath/fencesforxpath/Particle$Occurrence" = some m.cls := findClass_of_methodNamed Bd.named
  have hnm := (name_of_methodNamed Bd.named Bd.method).1
  have X0 : Stand p l e ({ frames := 0, cells := 0, slots := 0, locals := 0 } : Room) s m #[(.ref a1)] below meth c s₁ [] 0 0 := Stand.of_body Bd
  have e0 : s₁.heap = h0 := by rw [← hh, Bd.state]; rfl
  have N0 := Fr.nil n0
  show Goes p e below s (Q2 Z a1 a_ONCE a_OPTIONAL a_ONE_OR_MORE a_ZERO_OR_MORE h0 n0) ({ frames := 0, cells := 0, slots := 0, locals := 0 } : Room).cells ({ frames := 0, cells := 0, slots := 0, locals := 0 } : Room).slots (s₁.setTop (entryFrame m #[(.ref a1)] 2))
  refine Goes.enter (g' := (mkF m 0 #[.val (.ref a1), .unset] [])) (ef_rm2 m a1) ?_
  have FS0 := FS
  obtain ⟨S_ONCE, E_ONCE, S_OPTIONAL, E_OPTIONAL, F_OPTIONAL_ordinal, F_ONCE_ordinal, S_ONE_OR_MORE, E_ONE_OR_MORE, F_ONE_OR_MORE_ordinal, S_ZERO_OR_MORE, E_ZERO_OR_MORE, F_ZERO_OR_MORE_ordinal⟩ := FS0
  have ne_a_OPTIONAL_a_ONCE : a_OPTIONAL ≠ a_ONCE := Fld.ne F_OPTIONAL_ordinal F_ONCE_ordinal (by decide)
  have ne_a_OPTIONAL_a_ONE_OR_MORE : a_OPTIONAL ≠ a_ONE_OR_MORE := Fld.ne F_OPTIONAL_ordinal F_ONE_OR_MORE_ordinal (by decide)
  have ne_a_OPTIONAL_a_ZERO_OR_MORE : a_OPTIONAL ≠ a_ZERO_OR_MORE := Fld.ne F_OPTIONAL_ordinal F_ZERO_OR_MORE_ordinal (by decide)
  have ne_a_ONCE_a_ONE_OR_MORE : a_ONCE ≠ a_ONE_OR_MORE := Fld.ne F_ONCE_ordinal F_ONE_OR_MORE_ordinal (by decide)
  have ne_a_ONCE_a_ZERO_OR_MORE : a_ONCE ≠ a_ZERO_OR_MORE := Fld.ne F_ONCE_ordinal F_ZERO_OR_MORE_ordinal (by decide)
  have ne_a_ONE_OR_MORE_a_ZERO_OR_MORE : a_ONE_OR_MORE ≠ a_ZERO_OR_MORE := Fld.ne F_ONE_OR_MORE_ordinal F_ZERO_OR_MORE_ordinal (by decide)
  refine Goes.step (B := s₁.setTop (mkF m 1 #[.val (.ref a1), .unset] [(.ref a1)])) (fun _ k => XS.aloadN X0.here hx rfl (hb hby d2_0) rfl rfl k) ?_
  refine Goes.step (B := s₁.setTop (mkF m 2 #[.val (.ref a1), .val (.ref a1)] [])) (fun _ k => XS.astoreN X0.here hx rfl (hb hby d2_1) rfl rfl (l' := #[.val (.ref a1), .val (.ref a1)]) rfl k) ?_
  refine Goes.step (B := s₁.setTop (mkF m 3 #[.val (.ref a1), .val (.ref a1)] [(.ref a1)])) (fun _ k => XS.aloadN X0.here hx rfl (hb hby d2_2) rfl rfl k) ?_
  have f1 := S_ONCE.ext O0.2
  obtain ⟨T2, X2, e2, st2⟩ := getS2 X0 hx hZ hown (host := "") (Or.inl (hw _ (List.mem_of_getElem? (i := 12) rfl))) Via.refl e0 f1 (g := (mkF m 3 #[.val (.ref a1), .val (.ref a1)] [(.ref a1)])) rfl (hb hby d2_3)
  refine Goes.step (B := T2.setTop (mkF m 6 #[.val (.ref a1), .val (.ref a1)] [(.ref a_ONCE), (.ref a1)])) st2 ?_
  by_cases hc6_2 : a1 = a_ONCE
  · refine Goes.step (B := T2.setTop (mkF m 9 #[.val (.ref a1), .val (.ref a1)] [])) (fun _ k => Jvm.RoadKit.acmp (g := (mkF m 6 #[.val (.ref a1), .val (.ref a1)] [(.ref a_ONCE), (.ref a1)])) X2 hx rfl rfl rfl (pc0 := 6) (pc' := 9) (same := true) rfl (hb hby d2_6) rfl (decide_eq_true (congrArg Value.ref hc6_2)) (by decide) (by decide) k) ?_
    have f4 := S_OPTIONAL.ext O0.2
    obtain ⟨T5, X5, e5, st5⟩ := getS2 X2 hx hZ hown (host := "") (Or.inl (hw _ (List.mem_of_getElem? (i := 13) rfl))) Via.refl e2 f4 (g := (mkF m 9 #[.val (.ref a1), .val (.ref a1)] [])) rfl (hb hby d2_9)
    refine Goes.step (B := T5.setTop (mkF m 12 #[.val (.ref a1), .val (.ref a1)] [(.ref a_OPTIONAL)])) st5 ?_
    refine Goes.step (B := T5.setTop (mkF m 13 #[.val (.ref a1), .val (.ref a_OPTIONAL)] [])) (fun _ k => XS.astoreN X5.here hx rfl (hb hby d2_12) rfl rfl (l' := #[.val (.ref a1), .val (.ref a_OPTIONAL)]) rfl k) ?_
    refine Goes.step (B := T5.setTop (mkF m 27 #[.val (.ref a1), .val (.ref a_OPTIONAL)] [])) (fun _ k => XS.goto X5.here hx rfl (pc0 := 13) (pc' := 27) rfl (hb hby d2_13) (by decide) (by decide) k) ?_
    refine Goes.step (B := T5.setTop (mkF m 28 #[.val (.ref a1), .val (.ref a_OPTIONAL)] [(.ref a_OPTIONAL)])) (fun _ k => XS.aloadN X5.here hx rfl (hb hby d2_27) rfl rfl k) ?_
    exact Goes.retA X5 hx e5 Bd.returns rfl rfl hlk (hb hby d2_28) (by decide) (by decide) (⟨(by unfold own_opt; rw [if_pos hc6_2]; try rfl), N0, rfl⟩)
  · refine Goes.step (B := T2.setTop (mkF m 16 #[.val (.ref a1), .val (.ref a1)] [])) (fun _ k => Jvm.RoadKit.acmp (g := (mkF m 6 #[.val (.ref a1), .val (.ref a1)] [(.ref a_ONCE), (.ref a1)])) X2 hx rfl rfl rfl (pc0 := 6) (pc' := 16) (same := false) rfl (hb hby d2_6) rfl (decide_eq_false fun q => hc6_2 (Value.ref.inj q)) (by decide) (by decide) k) ?_
    refine Goes.step (B := T2.setTop (mkF m 17 #[.val (.ref a1), .val (.ref a1)] [(.ref a1)])) (fun _ k => XS.aloadN X2.here hx rfl (hb hby d2_16) rfl rfl k) ?_
    have f6 := S_ONE_OR_MORE.ext O0.2
    obtain ⟨T7, X7, e7, st7⟩ := getS2 X2 hx hZ hown (host := "") (Or.inl (hw _ (List.mem_of_getElem? (i := 24) rfl))) Via.refl e2 f6 (g := (mkF m 17 #[.val (.ref a1), .val (.ref a1)] [(.ref a1)])) rfl (hb hby d2_17)
    refine Goes.step (B := T7.setTop (mkF m 20 #[.val (.ref a1), .val (.ref a1)] [(.ref a_ONE_OR_MORE), (.ref a1)])) st7 ?_
    by_cases hc20_7 : a1 = a_ONE_OR_MORE
    · refine Goes.step (B := T7.setTop (mkF m 23 #[.val (.ref a1), .val (.ref a1)] [])) (fun _ k => Jvm.RoadKit.acmp (g := (mkF m 20 #[.val (.ref a1), .val (.ref a1)] [(.ref a_ONE_OR_MORE), (.ref a1)])) X7 hx rfl rfl rfl (pc0 := 20) (pc' := 23) (same := true) rfl (hb hby d2_20) rfl (decide_eq_true (congrArg Value.ref hc20_7)) (by decide) (by decide) k) ?_
      have f9 := S_ZERO_OR_MORE.ext O0.2
      obtain ⟨T10, X10, e10, st10⟩ := getS2 X7 hx hZ hown (host := "") (Or.inl (hw _ (List.mem_of_getElem? (i := 25) rfl))) Via.refl e7 f9 (g := (mkF m 23 #[.val (.ref a1), .val (.ref a1)] [])) rfl (hb hby d2_23)
      refine Goes.step (B := T10.setTop (mkF m 26 #[.val (.ref a1), .val (.ref a1)] [(.ref a_ZERO_OR_MORE)])) st10 ?_
      refine Goes.step (B := T10.setTop (mkF m 27 #[.val (.ref a1), .val (.ref a_ZERO_OR_MORE)] [])) (fun _ k => XS.astoreN X10.here hx rfl (hb hby d2_26) rfl rfl (l' := #[.val (.ref a1), .val (.ref a_ZERO_OR_MORE)]) rfl k) ?_
      refine Goes.step (B := T10.setTop (mkF m 28 #[.val (.ref a1), .val (.ref a_ZERO_OR_MORE)] [(.ref a_ZERO_OR_MORE)])) (fun _ k => XS.aloadN X10.here hx rfl (hb hby d2_27) rfl rfl k) ?_
      exact Goes.retA X10 hx e10 Bd.returns rfl rfl hlk (hb hby d2_28) (by decide) (by decide) (⟨(by unfold own_opt; rw [if_neg hc6_2, if_pos hc20_7]; try rfl), N0, rfl⟩)
    · refine Goes.step (B := T7.setTop (mkF m 27 #[.val (.ref a1), .val (.ref a1)] [])) (fun _ k => Jvm.RoadKit.acmp (g := (mkF m 20 #[.val (.ref a1), .val (.ref a1)] [(.ref a_ONE_OR_MORE), (.ref a1)])) X7 hx rfl rfl rfl (pc0 := 20) (pc' := 27) (same := false) rfl (hb hby d2_20) rfl (decide_eq_false fun q => hc20_7 (Value.ref.inj q)) (by decide) (by decide) k) ?_
      refine Goes.step (B := T7.setTop (mkF m 28 #[.val (.ref a1), .val (.ref a1)] [(.ref a1)])) (fun _ k => XS.aloadN X7.here hx rfl (hb hby d2_27) rfl rfl k) ?_
      exact Goes.retA X7 hx e7 Bd.returns rfl rfl hlk (hb hby d2_28) (by decide) (by decide) (⟨(by unfold own_opt; rw [if_neg hc6_2, if_neg hc20_7]; try rfl), N0, rfl⟩)
theorem d3_0 : decode method_4_code 0 = .ok (.aload_n 0, 1) := by decide +kernel
theorem d3_1 : decode method_4_code 1 = .ok (.getstatic 26, 3) := by decide +kernel
theorem d3_4 : decode method_4_code 4 = .ok (.if_acmp .eq 10, 3) := by decide +kernel
theorem d3_14 : decode method_4_code 14 = .ok (.iconst 1, 1) := by decide +kernel
theorem d3_15 : decode method_4_code 15 = .ok (.goto 4, 3) := by decide +kernel
theorem d3_19 : decode method_4_code 19 = .ok (.ireturn, 1) := by decide +kernel
theorem d3_7 : decode method_4_code 7 = .ok (.aload_n 0, 1) := by decide +kernel
theorem d3_8 : decode method_4_code 8 = .ok (.getstatic 36, 3) := by decide +kernel
theorem d3_11 : decode method_4_code 11 = .ok (.if_acmp .ne 7, 3) := by decide +kernel
theorem d3_18 : decode method_4_code 18 = .ok (.iconst 0, 1) := by decide +kernel
theorem ef_rm3 (m : MethodId) (x0 : Addr) : entryFrame m #[(.ref x0)] 1 = mkF m 0 #[.val (.ref x0)] [] := by first | (simp [entryFrame, mkF, argsToLocals, Value.category]; done) | rfl
def Q3 (Z : State) (a1 : Addr) (a_ONCE : Addr) (a_OPTIONAL : Addr) (a_ONE_OR_MORE : Addr) (a_ZERO_OR_MORE : Addr) (h0 : Heap) (n0 : Nat) (v : Option Value) (h : Heap) (L : List Loc) : Prop := v = some (.int (own_min a1 a_ONCE a_ONE_OR_MORE)) ∧ Fr n0 L ∧ h = h0
set_option maxRecDepth 65536 in
set_option maxHeartbeats 40000000 in
theorem rm3 (l : Launch) (Z : State) (a0 : Array Value) (hw : ∀ d ∈ tables_1, d.before a0 Z = true) (ws : List Jvm.Cond) (a1 : Addr) (a_ONCE : Addr) (a_OPTIONAL : Addr) (a_ONE_OR_MORE : Addr) (a_ZERO_OR_MORE : Addr) (h0 : Heap) (n0 : Nat) (O0 : Old Z n0 h0) (FS : OwnSt Z a_ONCE a_OPTIONAL a_ONE_OR_MORE a_ZERO_OR_MORE) :
    MetFree l (⟨"com/example/fences_for_xpath/fencesforxpath/OccurrenceOptionalPinLaw", "minOf", "(Lcom/example/fences_for_xpath/fencesforxpath/Particle$Occurrence;)I"⟩ : MethodName) (head1 (Jvm.Cond.code (⟨"com/example/fences_for_xpath/fencesforxpath/OccurrenceOptionalPinLaw", "minOf", "(Lcom/example/fences_for_xpath/fencesforxpath/Particle$Occurrence;)I"⟩ : MethodName) method_4_code 1 (some .int) :: ws) ({ frames := 0, cells := 0, slots := 0, locals := 0 } : Room)) (fun a U => a = #[(.ref a1)] ∧ Z.Warmed39 U.vm ∧ U.heap = h0) (fun _ _ _ _ _ => True) (fun _ U o U' => ∃ v L, o = .returned v ∧ Q3 Z a1 a_ONCE a_OPTIONAL a_ONE_OR_MORE a_ZERO_OR_MORE h0 n0 v U'.heap L ∧ FrameEnd U o U' L ({ frames := 0, cells := 0, slots := 0, locals := 0 } : Room).cells ({ frames := 0, cells := 0, slots := 0, locals := 0 } : Room).slots) := by
  refine MetFree.of_bodySF (plainFor_of_name pn_OccurrenceOptionalPinLaw) hisR ?_
  intro p e s m args below meth c s₁ Bd hml0 hP hK
  obtain ⟨rfl, hZ, hh⟩ := hP
  have hx := Bd.exec
  have hby := Bd.bytes
  have hlk : meth.locks = false := BodyLoose.notSynchronized Bd
  have hml : c.maxLocals = 1 := hml0
  have hown : s.vm.findClass "com/example/fences_for_xpath/fencesforxpath/OccurrenceOptionalPinLaw" = some m.cls := findClass_of_methodNamed Bd.named
  have hnm := (name_of_methodNamed Bd.named Bd.method).1
  have X0 : Stand p l e ({ frames := 0, cells := 0, slots := 0, locals := 0 } : Room) s m #[(.ref a1)] below meth c s₁ [] 0 0 := Stand.of_body Bd
  have e0 : s₁.heap = h0 := by rw [← hh, Bd.state]; rfl
  have N0 := Fr.nil n0
  show Goes p e below s (Q3 Z a1 a_ONCE a_OPTIONAL a_ONE_OR_MORE a_ZERO_OR_MORE h0 n0) ({ frames := 0, cells := 0, slots := 0, locals := 0 } : Room).cells ({ frames := 0, cells := 0, slots := 0, locals := 0 } : Room).slots (s₁.setTop (entryFrame m #[(.ref a1)] 1))
  refine Goes.enter (g' := (mkF m 0 #[.val (.ref a1)] [])) (ef_rm3 m a1) ?_
  have FS0 := FS
  obtain ⟨S_ONCE, E_ONCE, S_OPTIONAL, E_OPTIONAL, F_OPTIONAL_ordinal, F_ONCE_ordinal, S_ONE_OR_MORE, E_ONE_OR_MORE, F_ONE_OR_MORE_ordinal, S_ZERO_OR_MORE, E_ZERO_OR_MORE, F_ZERO_OR_MORE_ordinal⟩ := FS0
  have ne_a_OPTIONAL_a_ONCE : a_OPTIONAL ≠ a_ONCE := Fld.ne F_OPTIONAL_ordinal F_ONCE_ordinal (by decide)
  have ne_a_OPTIONAL_a_ONE_OR_MORE : a_OPTIONAL ≠ a_ONE_OR_MORE := Fld.ne F_OPTIONAL_ordinal F_ONE_OR_MORE_ordinal (by decide)
  have ne_a_OPTIONAL_a_ZERO_OR_MORE : a_OPTIONAL ≠ a_ZERO_OR_MORE := Fld.ne F_OPTIONAL_ordinal F_ZERO_OR_MORE_ordinal (by decide)
  have ne_a_ONCE_a_ONE_OR_MORE : a_ONCE ≠ a_ONE_OR_MORE := Fld.ne F_ONCE_ordinal F_ONE_OR_MORE_ordinal (by decide)
  have ne_a_ONCE_a_ZERO_OR_MORE : a_ONCE ≠ a_ZERO_OR_MORE := Fld.ne F_ONCE_ordinal F_ZERO_OR_MORE_ordinal (by decide)
  have ne_a_ONE_OR_MORE_a_ZERO_OR_MORE : a_ONE_OR_MORE ≠ a_ZERO_OR_MORE := Fld.ne F_ONE_OR_MORE_ordinal F_ZERO_OR_MORE_ordinal (by decide)
  refine Goes.step (B := s₁.setTop (mkF m 1 #[.val (.ref a1)] [(.ref a1)])) (fun _ k => XS.aloadN X0.here hx rfl (hb hby d3_0) rfl rfl k) ?_
  have f1 := S_ONCE.ext O0.2
  obtain ⟨T2, X2, e2, st2⟩ := getS2 X0 hx hZ hown (host := "") (Or.inl (hw _ (List.mem_of_getElem? (i := 4) rfl))) Via.refl e0 f1 (g := (mkF m 1 #[.val (.ref a1)] [(.ref a1)])) rfl (hb hby d3_1)
  refine Goes.step (B := T2.setTop (mkF m 4 #[.val (.ref a1)] [(.ref a_ONCE), (.ref a1)])) st2 ?_
  by_cases hc4_2 : a1 = a_ONCE
  · refine Goes.step (B := T2.setTop (mkF m 14 #[.val (.ref a1)] [])) (fun _ k => Jvm.RoadKit.acmp (g := (mkF m 4 #[.val (.ref a1)] [(.ref a_ONCE), (.ref a1)])) X2 hx rfl rfl rfl (pc0 := 4) (pc' := 14) (same := true) rfl (hb hby d3_4) rfl (decide_eq_true (congrArg Value.ref hc4_2)) (by decide) (by decide) k) ?_
    refine Goes.step (B := T2.setTop (mkF m 15 #[.val (.ref a1)] [(.int (1 : Int32))])) (fun _ k => XS.iconst X2.here hx rfl (hb hby d3_14) k) ?_
    refine Goes.step (B := T2.setTop (mkF m 19 #[.val (.ref a1)] [(.int (1 : Int32))])) (fun _ k => XS.goto X2.here hx rfl (pc0 := 15) (pc' := 19) rfl (hb hby d3_15) (by decide) (by decide) k) ?_
    exact Goes.retI X2 hx e2 Bd.returns hlk (hb hby d3_19) (by decide) (by decide) (⟨(by unfold own_min; rw [if_pos hc4_2]; try rfl), N0, rfl⟩)
  · refine Goes.step (B := T2.setTop (mkF m 7 #[.val (.ref a1)] [])) (fun _ k => Jvm.RoadKit.acmp (g := (mkF m 4 #[.val (.ref a1)] [(.ref a_ONCE), (.ref a1)])) X2 hx rfl rfl rfl (pc0 := 4) (pc' := 7) (same := false) rfl (hb hby d3_4) rfl (decide_eq_false fun q => hc4_2 (Value.ref.inj q)) (by decide) (by decide) k) ?_
    refine Goes.step (B := T2.setTop (mkF m 8 #[.val (.ref a1)] [(.ref a1)])) (fun _ k => XS.aloadN X2.here hx rfl (hb hby d3_7) rfl rfl k) ?_
    have f4 := S_ONE_OR_MORE.ext O0.2
    obtain ⟨T5, X5, e5, st5⟩ := getS2 X2 hx hZ hown (host := "") (Or.inl (hw _ (List.mem_of_getElem? (i := 18) rfl))) Via.refl e2 f4 (g := (mkF m 8 #[.val (.ref a1)] [(.ref a1)])) rfl (hb hby d3_8)
    refine Goes.step (B := T5.setTop (mkF m 11 #[.val (.ref a1)] [(.ref a_ONE_OR_MORE), (.ref a1)])) st5 ?_
    by_cases hc11_5 : a1 = a_ONE_OR_MORE
    · refine Goes.step (B := T5.setTop (mkF m 14 #[.val (.ref a1)] [])) (fun _ k => Jvm.RoadKit.acmp (g := (mkF m 11 #[.val (.ref a1)] [(.ref a_ONE_OR_MORE), (.ref a1)])) X5 hx rfl rfl rfl (pc0 := 11) (pc' := 14) (same := true) rfl (hb hby d3_11) rfl (decide_eq_true (congrArg Value.ref hc11_5)) (by decide) (by decide) k) ?_
      refine Goes.step (B := T5.setTop (mkF m 15 #[.val (.ref a1)] [(.int (1 : Int32))])) (fun _ k => XS.iconst X5.here hx rfl (hb hby d3_14) k) ?_
      refine Goes.step (B := T5.setTop (mkF m 19 #[.val (.ref a1)] [(.int (1 : Int32))])) (fun _ k => XS.goto X5.here hx rfl (pc0 := 15) (pc' := 19) rfl (hb hby d3_15) (by decide) (by decide) k) ?_
      exact Goes.retI X5 hx e5 Bd.returns hlk (hb hby d3_19) (by decide) (by decide) (⟨(by unfold own_min; rw [if_neg hc4_2, if_pos hc11_5]; try rfl), N0, rfl⟩)
    · refine Goes.step (B := T5.setTop (mkF m 18 #[.val (.ref a1)] [])) (fun _ k => Jvm.RoadKit.acmp (g := (mkF m 11 #[.val (.ref a1)] [(.ref a_ONE_OR_MORE), (.ref a1)])) X5 hx rfl rfl rfl (pc0 := 11) (pc' := 18) (same := false) rfl (hb hby d3_11) rfl (decide_eq_false fun q => hc11_5 (Value.ref.inj q)) (by decide) (by decide) k) ?_
      refine Goes.step (B := T5.setTop (mkF m 19 #[.val (.ref a1)] [(.int (0 : Int32))])) (fun _ k => XS.iconst X5.here hx rfl (hb hby d3_18) k) ?_
      exact Goes.retI X5 hx e5 Bd.returns hlk (hb hby d3_19) (by decide) (by decide) (⟨(by unfold own_min; rw [if_neg hc4_2, if_neg hc11_5]; try rfl), N0, rfl⟩)
theorem d4_0 : decode method_5_code 0 = .ok (.aload_n 0, 1) := by decide +kernel
theorem d4_1 : decode method_5_code 1 = .ok (.getstatic 26, 3) := by decide +kernel
theorem d4_4 : decode method_5_code 4 = .ok (.if_acmp .eq 10, 3) := by decide +kernel
theorem d4_14 : decode method_5_code 14 = .ok (.iconst 1, 1) := by decide +kernel
theorem d4_15 : decode method_5_code 15 = .ok (.goto 4, 3) := by decide +kernel
theorem d4_19 : decode method_5_code 19 = .ok (.ireturn, 1) := by decide +kernel
theorem d4_7 : decode method_5_code 7 = .ok (.aload_n 0, 1) := by decide +kernel
theorem d4_8 : decode method_5_code 8 = .ok (.getstatic 30, 3) := by decide +kernel
theorem d4_11 : decode method_5_code 11 = .ok (.if_acmp .ne 7, 3) := by decide +kernel
theorem d4_18 : decode method_5_code 18 = .ok (.iconst 2, 1) := by decide +kernel
theorem ef_rm4 (m : MethodId) (x0 : Addr) : entryFrame m #[(.ref x0)] 1 = mkF m 0 #[.val (.ref x0)] [] := by first | (simp [entryFrame, mkF, argsToLocals, Value.category]; done) | rfl
def Q4 (Z : State) (a1 : Addr) (a_ONCE : Addr) (a_OPTIONAL : Addr) (a_ONE_OR_MORE : Addr) (a_ZERO_OR_MORE : Addr) (h0 : Heap) (n0 : Nat) (v : Option Value) (h : Heap) (L : List Loc) : Prop := v = some (.int (own_max a1 a_ONCE a_OPTIONAL)) ∧ Fr n0 L ∧ h = h0
set_option maxRecDepth 65536 in
set_option maxHeartbeats 40000000 in
theorem rm4 (l : Launch) (Z : State) (a0 : Array Value) (hw : ∀ d ∈ tables_1, d.before a0 Z = true) (ws : List Jvm.Cond) (a1 : Addr) (a_ONCE : Addr) (a_OPTIONAL : Addr) (a_ONE_OR_MORE : Addr) (a_ZERO_OR_MORE : Addr) (h0 : Heap) (n0 : Nat) (O0 : Old Z n0 h0) (FS : OwnSt Z a_ONCE a_OPTIONAL a_ONE_OR_MORE a_ZERO_OR_MORE) :
    MetFree l (⟨"com/example/fences_for_xpath/fencesforxpath/OccurrenceOptionalPinLaw", "maxOf", "(Lcom/example/fences_for_xpath/fencesforxpath/Particle$Occurrence;)I"⟩ : MethodName) (head1 (Jvm.Cond.code (⟨"com/example/fences_for_xpath/fencesforxpath/OccurrenceOptionalPinLaw", "maxOf", "(Lcom/example/fences_for_xpath/fencesforxpath/Particle$Occurrence;)I"⟩ : MethodName) method_5_code 1 (some .int) :: ws) ({ frames := 0, cells := 0, slots := 0, locals := 0 } : Room)) (fun a U => a = #[(.ref a1)] ∧ Z.Warmed39 U.vm ∧ U.heap = h0) (fun _ _ _ _ _ => True) (fun _ U o U' => ∃ v L, o = .returned v ∧ Q4 Z a1 a_ONCE a_OPTIONAL a_ONE_OR_MORE a_ZERO_OR_MORE h0 n0 v U'.heap L ∧ FrameEnd U o U' L ({ frames := 0, cells := 0, slots := 0, locals := 0 } : Room).cells ({ frames := 0, cells := 0, slots := 0, locals := 0 } : Room).slots) := by
  refine MetFree.of_bodySF (plainFor_of_name pn_OccurrenceOptionalPinLaw) hisR ?_
  intro p e s m args below meth c s₁ Bd hml0 hP hK
  obtain ⟨rfl, hZ, hh⟩ := hP
  have hx := Bd.exec
  have hby := Bd.bytes
  have hlk : meth.locks = false := BodyLoose.notSynchronized Bd
  have hml : c.maxLocals = 1 := hml0
  have hown : s.vm.findClass "com/example/fences_for_xpath/fencesforxpath/OccurrenceOptionalPinLaw" = some m.cls := findClass_of_methodNamed Bd.named
  have hnm := (name_of_methodNamed Bd.named Bd.method).1
  have X0 : Stand p l e ({ frames := 0, cells := 0, slots := 0, locals := 0 } : Room) s m #[(.ref a1)] below meth c s₁ [] 0 0 := Stand.of_body Bd
  have e0 : s₁.heap = h0 := by rw [← hh, Bd.state]; rfl
  have N0 := Fr.nil n0
  show Goes p e below s (Q4 Z a1 a_ONCE a_OPTIONAL a_ONE_OR_MORE a_ZERO_OR_MORE h0 n0) ({ frames := 0, cells := 0, slots := 0, locals := 0 } : Room).cells ({ frames := 0, cells := 0, slots := 0, locals := 0 } : Room).slots (s₁.setTop (entryFrame m #[(.ref a1)] 1))
  refine Goes.enter (g' := (mkF m 0 #[.val (.ref a1)] [])) (ef_rm4 m a1) ?_
  have FS0 := FS
  obtain ⟨S_ONCE, E_ONCE, S_OPTIONAL, E_OPTIONAL, F_OPTIONAL_ordinal, F_ONCE_ordinal, S_ONE_OR_MORE, E_ONE_OR_MORE, F_ONE_OR_MORE_ordinal, S_ZERO_OR_MORE, E_ZERO_OR_MORE, F_ZERO_OR_MORE_ordinal⟩ := FS0
  have ne_a_OPTIONAL_a_ONCE : a_OPTIONAL ≠ a_ONCE := Fld.ne F_OPTIONAL_ordinal F_ONCE_ordinal (by decide)
  have ne_a_OPTIONAL_a_ONE_OR_MORE : a_OPTIONAL ≠ a_ONE_OR_MORE := Fld.ne F_OPTIONAL_ordinal F_ONE_OR_MORE_ordinal (by decide)
  have ne_a_OPTIONAL_a_ZERO_OR_MORE : a_OPTIONAL ≠ a_ZERO_OR_MORE := Fld.ne F_OPTIONAL_ordinal F_ZERO_OR_MORE_ordinal (by decide)
  have ne_a_ONCE_a_ONE_OR_MORE : a_ONCE ≠ a_ONE_OR_MORE := Fld.ne F_ONCE_ordinal F_ONE_OR_MORE_ordinal (by decide)
  have ne_a_ONCE_a_ZERO_OR_MORE : a_ONCE ≠ a_ZERO_OR_MORE := Fld.ne F_ONCE_ordinal F_ZERO_OR_MORE_ordinal (by decide)
  have ne_a_ONE_OR_MORE_a_ZERO_OR_MORE : a_ONE_OR_MORE ≠ a_ZERO_OR_MORE := Fld.ne F_ONE_OR_MORE_ordinal F_ZERO_OR_MORE_ordinal (by decide)
  refine Goes.step (B := s₁.setTop (mkF m 1 #[.val (.ref a1)] [(.ref a1)])) (fun _ k => XS.aloadN X0.here hx rfl (hb hby d4_0) rfl rfl k) ?_
  have f1 := S_ONCE.ext O0.2
  obtain ⟨T2, X2, e2, st2⟩ := getS2 X0 hx hZ hown (host := "") (Or.inl (hw _ (List.mem_of_getElem? (i := 4) rfl))) Via.refl e0 f1 (g := (mkF m 1 #[.val (.ref a1)] [(.ref a1)])) rfl (hb hby d4_1)
  refine Goes.step (B := T2.setTop (mkF m 4 #[.val (.ref a1)] [(.ref a_ONCE), (.ref a1)])) st2 ?_
  by_cases hc4_2 : a1 = a_ONCE
  · refine Goes.step (B := T2.setTop (mkF m 14 #[.val (.ref a1)] [])) (fun _ k => Jvm.RoadKit.acmp (g := (mkF m 4 #[.val (.ref a1)] [(.ref a_ONCE), (.ref a1)])) X2 hx rfl rfl rfl (pc0 := 4) (pc' := 14) (same := true) rfl (hb hby d4_4) rfl (decide_eq_true (congrArg Value.ref hc4_2)) (by decide) (by decide) k) ?_
    refine Goes.step (B := T2.setTop (mkF m 15 #[.val (.ref a1)] [(.int (1 : Int32))])) (fun _ k => XS.iconst X2.here hx rfl (hb hby d4_14) k) ?_
    refine Goes.step (B := T2.setTop (mkF m 19 #[.val (.ref a1)] [(.int (1 : Int32))])) (fun _ k => XS.goto X2.here hx rfl (pc0 := 15) (pc' := 19) rfl (hb hby d4_15) (by decide) (by decide) k) ?_
    exact Goes.retI X2 hx e2 Bd.returns hlk (hb hby d4_19) (by decide) (by decide) (⟨(by unfold own_max; rw [if_pos hc4_2]; try rfl), N0, rfl⟩)
  · refine Goes.step (B := T2.setTop (mkF m 7 #[.val (.ref a1)] [])) (fun _ k => Jvm.RoadKit.acmp (g := (mkF m 4 #[.val (.ref a1)] [(.ref a_ONCE), (.ref a1)])) X2 hx rfl rfl rfl (pc0 := 4) (pc' := 7) (same := false) rfl (hb hby d4_4) rfl (decide_eq_false fun q => hc4_2 (Value.ref.inj q)) (by decide) (by decide) k) ?_
    refine Goes.step (B := T2.setTop (mkF m 8 #[.val (.ref a1)] [(.ref a1)])) (fun _ k => XS.aloadN X2.here hx rfl (hb hby d4_7) rfl rfl k) ?_
    have f4 := S_OPTIONAL.ext O0.2
    obtain ⟨T5, X5, e5, st5⟩ := getS2 X2 hx hZ hown (host := "") (Or.inl (hw _ (List.mem_of_getElem? (i := 23) rfl))) Via.refl e2 f4 (g := (mkF m 8 #[.val (.ref a1)] [(.ref a1)])) rfl (hb hby d4_8)
    refine Goes.step (B := T5.setTop (mkF m 11 #[.val (.ref a1)] [(.ref a_OPTIONAL), (.ref a1)])) st5 ?_
    by_cases hc11_5 : a1 = a_OPTIONAL
    · refine Goes.step (B := T5.setTop (mkF m 14 #[.val (.ref a1)] [])) (fun _ k => Jvm.RoadKit.acmp (g := (mkF m 11 #[.val (.ref a1)] [(.ref a_OPTIONAL), (.ref a1)])) X5 hx rfl rfl rfl (pc0 := 11) (pc' := 14) (same := true) rfl (hb hby d4_11) rfl (decide_eq_true (congrArg Value.ref hc11_5)) (by decide) (by decide) k) ?_
      refine Goes.step (B := T5.setTop (mkF m 15 #[.val (.ref a1)] [(.int (1 : Int32))])) (fun _ k => XS.iconst X5.here hx rfl (hb hby d4_14) k) ?_
      refine Goes.step (B := T5.setTop (mkF m 19 #[.val (.ref a1)] [(.int (1 : Int32))])) (fun _ k => XS.goto X5.here hx rfl (pc0 := 15) (pc' := 19) rfl (hb hby d4_15) (by decide) (by decide) k) ?_
      exact Goes.retI X5 hx e5 Bd.returns hlk (hb hby d4_19) (by decide) (by decide) (⟨(by unfold own_max; rw [if_neg hc4_2, if_pos hc11_5]; try rfl), N0, rfl⟩)
    · refine Goes.step (B := T5.setTop (mkF m 18 #[.val (.ref a1)] [])) (fun _ k => Jvm.RoadKit.acmp (g := (mkF m 11 #[.val (.ref a1)] [(.ref a_OPTIONAL), (.ref a1)])) X5 hx rfl rfl rfl (pc0 := 11) (pc' := 18) (same := false) rfl (hb hby d4_11) rfl (decide_eq_false fun q => hc11_5 (Value.ref.inj q)) (by decide) (by decide) k) ?_
      refine Goes.step (B := T5.setTop (mkF m 19 #[.val (.ref a1)] [(.int (2 : Int32))])) (fun _ k => XS.iconst X5.here hx rfl (hb hby d4_18) k) ?_
      exact Goes.retI X5 hx e5 Bd.returns hlk (hb hby d4_19) (by decide) (by decide) (⟨(by unfold own_max; rw [if_neg hc4_2, if_neg hc11_5]; try rfl), N0, rfl⟩)
theorem pd_0 : parseMethodDescriptor "(I)Lcom/example/fences_for_xpath/fencesforxpath/Particle$Occurrence;" = some ⟨[.int], some (.object "com/example/fences_for_xpath/fencesforxpath/Particle$Occurrence")⟩ := by decide +kernel
theorem pd_1 : parseMethodDescriptor "()Lcom/example/fences_for_xpath/fencesforxpath/Particle$Occurrence;" = some ⟨[], some (.object "com/example/fences_for_xpath/fencesforxpath/Particle$Occurrence")⟩ := by decide +kernel
theorem pd_2 : parseMethodDescriptor "(Lcom/example/fences_for_xpath/fencesforxpath/Particle$Occurrence;)I" = some ⟨[(.object "com/example/fences_for_xpath/fencesforxpath/Particle$Occurrence")], some .int⟩ := by decide +kernel
theorem ef_rm0 (m : MethodId) (x0 : Int32) : entryFrame m #[(.int x0)] maxLocals = mkF m 0 #[.val (.int x0), .unset, .unset] [] := by first | (simp [entryFrame, mkF, argsToLocals, Value.category, maxLocals]; done) | rfl
def Q0 (Z : State) (i0 : Int32) (a_ONCE : Addr) (a_OPTIONAL : Addr) (a_ONE_OR_MORE : Addr) (a_ZERO_OR_MORE : Addr) (h0 : Heap) (n0 : Nat) (v : Option Value) (h : Heap) (L : List Loc) : Prop := v = some (.int 1) ∧ Fr n0 L
set_option maxRecDepth 65536 in
set_option maxHeartbeats 40000000 in
theorem rm0 (l : Launch) (Z : State) (a0 : Array Value) (hw : ∀ d ∈ tables_1, d.before a0 Z = true) (ws : List Jvm.Cond) (i0 : Int32) (a_ONCE : Addr) (a_OPTIONAL : Addr) (a_ONE_OR_MORE : Addr) (a_ZERO_OR_MORE : Addr) (h0 : Heap) (n0 : Nat) (O0 : Old Z n0 h0) (FS : OwnSt Z a_ONCE a_OPTIONAL a_ONE_OR_MORE a_ZERO_OR_MORE) :
    MetFree l x (head1 (Jvm.Cond.code x code maxLocals ret :: ws) room_1) (fun a U => a = #[(.int i0)] ∧ Z.Warmed39 U.vm ∧ U.heap = h0) (fun _ _ _ _ _ => True) (fun _ U o U' => ∃ v L, o = .returned v ∧ Q0 Z i0 a_ONCE a_OPTIONAL a_ONE_OR_MORE a_ZERO_OR_MORE h0 n0 v U'.heap L ∧ FrameEnd U o U' L room_1.cells room_1.slots) := by
  refine MetFree.of_bodySF (plainFor_of_name pn_OccurrenceOptionalPinLaw) hisR ?_
  intro p e s m args below meth c s₁ Bd hml0 hP hK
  obtain ⟨rfl, hZ, hh⟩ := hP
  have hx := Bd.exec
  have hby := Bd.bytes
  have hlk : meth.locks = false := BodyLoose.notSynchronized Bd
  have hml : c.maxLocals = 3 := hml0
  have hown : s.vm.findClass "com/example/fences_for_xpath/fencesforxpath/OccurrenceOptionalPinLaw" = some m.cls := findClass_of_methodNamed Bd.named
  have hnm := (name_of_methodNamed Bd.named Bd.method).1
  have X0 : Stand p l e room_1 s m #[(.int i0)] below meth c s₁ [] 0 0 := Stand.of_body Bd
  have e0 : s₁.heap = h0 := by rw [← hh, Bd.state]; rfl
  have N0 := Fr.nil n0
  show Goes p e below s (Q0 Z i0 a_ONCE a_OPTIONAL a_ONE_OR_MORE a_ZERO_OR_MORE h0 n0) room_1.cells room_1.slots (s₁.setTop (entryFrame m #[(.int i0)] maxLocals))
  refine Goes.enter (g' := (mkF m 0 #[.val (.int i0), .unset, .unset] [])) (ef_rm0 m i0) ?_
  have FS0 := FS
  obtain ⟨S_ONCE, E_ONCE, S_OPTIONAL, E_OPTIONAL, F_OPTIONAL_ordinal, F_ONCE_ordinal, S_ONE_OR_MORE, E_ONE_OR_MORE, F_ONE_OR_MORE_ordinal, S_ZERO_OR_MORE, E_ZERO_OR_MORE, F_ZERO_OR_MORE_ordinal⟩ := FS0
  have ne_a_OPTIONAL_a_ONCE : a_OPTIONAL ≠ a_ONCE := Fld.ne F_OPTIONAL_ordinal F_ONCE_ordinal (by decide)
  have ne_a_OPTIONAL_a_ONE_OR_MORE : a_OPTIONAL ≠ a_ONE_OR_MORE := Fld.ne F_OPTIONAL_ordinal F_ONE_OR_MORE_ordinal (by decide)
  have ne_a_OPTIONAL_a_ZERO_OR_MORE : a_OPTIONAL ≠ a_ZERO_OR_MORE := Fld.ne F_OPTIONAL_ordinal F_ZERO_OR_MORE_ordinal (by decide)
  have ne_a_ONCE_a_ONE_OR_MORE : a_ONCE ≠ a_ONE_OR_MORE := Fld.ne F_ONCE_ordinal F_ONE_OR_MORE_ordinal (by decide)
  have ne_a_ONCE_a_ZERO_OR_MORE : a_ONCE ≠ a_ZERO_OR_MORE := Fld.ne F_ONCE_ordinal F_ZERO_OR_MORE_ordinal (by decide)
  have ne_a_ONE_OR_MORE_a_ZERO_OR_MORE : a_ONE_OR_MORE ≠ a_ZERO_OR_MORE := Fld.ne F_ONE_OR_MORE_ordinal F_ZERO_OR_MORE_ordinal (by decide)
  obtain ⟨iv, hiv⟩ : ∃ z, z = (i0 &&& (3 : Int32)) := ⟨_, rfl⟩
  rcases own_m3 hiv with rfl | rfl | rfl | rfl
  · refine Goes.step (B := s₁.setTop (mkF m 1 #[.val (.int i0), .unset, .unset] [(.int i0)])) (fun _ k => XS.iloadN X0.here hx rfl (hb hby at_0) rfl k) ?_
    obtain ⟨_, _, ⟨T1, L1, k1, n1⟩, -, X1, ⟨Lc1, hQ1, l1, y1, z1⟩, st1⟩ := Jvm.LawKit.callS X0 hx (y := (⟨"com/example/fences_for_xpath/fencesforxpath/OccurrenceOptionalPinLaw", "pick", "(I)Lcom/example/fences_for_xpath/fencesforxpath/Particle$Occurrence;"⟩ : MethodName)) hown (mvT hZ (hw _ (List.mem_of_getElem? (i := 0) rfl))) (mvT hZ (hw _ (List.mem_of_getElem? (i := 1) rfl))) (mvT hZ (hw _ (List.mem_of_getElem? (i := 2) rfl))) (mvT hZ (hw _ (List.mem_of_getElem? (i := 3) rfl))) (by decide) (backOf (W := 0) (rm1 l Z a0 hw [] i0 a_ONCE a_OPTIONAL a_ONE_OR_MORE a_ZERO_OR_MORE h0 n0 O0 FS) hZ (hw _ (List.mem_of_getElem? (i := 3) rfl)) (hw _ (List.mem_of_getElem? (i := 2) rfl)) (by decide) (by decide)) (g := (mkF m 1 #[.val (.int i0), .unset, .unset] [(.int i0)])) rfl (by rw [hml]; rfl) (argsL := [(.int i0)]) (rest := []) (lenOf pd_0 rfl) rfl (by show 2 * 0 + _ ≤ _; exact Nat.le_of_eq rfl) (hb hby at_1) (fun _ _ => ⟨rfl, e0, (by decide : 0 + 0 ≤ _), (by decide : 0 + 0 ≤ _)⟩)
    dsimp only [Pt.U, Pt.locs, Pt.cells, Pt.slots] at X1 l1 y1 z1 st1 hQ1
    subst l1 y1 z1
    obtain ⟨rfl, Nq1, eh1⟩ := hQ1
    have N1 := Fr.app N0 Nq1
    refine Goes.step (B := T1.setTop (mkF m 4 #[.val (.int i0), .unset, .unset] [(.ref (own_pick (i0 &&& (3 : Int32)) a_ONCE a_OPTIONAL a_ZERO_OR_MORE a_ONE_OR_MORE))])) st1 ?_
    rw [(by rw [← hiv]; rfl : (own_pick (i0 &&& (3 : Int32)) a_ONCE a_OPTIONAL a_ZERO_OR_MORE a_ONE_OR_MORE) = a_ONCE)]
    refine Goes.step (B := T1.setTop (mkF m 5 #[.val (.int i0), .val (.ref a_ONCE), .unset] [])) (fun _ k => XS.astoreN X1.here hx rfl (hb hby at_4) rfl rfl (l' := #[.val (.int i0), .val (.ref a_ONCE), .unset]) rfl k) ?_
    refine Goes.step (B := T1.setTop (mkF m 6 #[.val (.int i0), .val (.ref a_ONCE), .unset] [(.ref a_ONCE)])) (fun _ k => XS.aloadN X1.here hx rfl (hb hby at_5) rfl rfl k) ?_
    have f3 := E_ONCE.ext O0.2
    obtain ⟨cq2, kq2, qa2, qb2, qc2⟩ := isOf hZ eh1 f3
    obtain ⟨_, _, ⟨T2, L2, k2, n2⟩, -, X2, ⟨Lc2, hQ2, l2, y2, z2⟩, st2⟩ := X1.virtualBack hx (y := (⟨"com/example/fences_for_xpath/fencesforxpath/Particle$Occurrence", "optional", "()Lcom/example/fences_for_xpath/fencesforxpath/Particle$Occurrence;"⟩ : MethodName)) (z := (⟨"com/example/fences_for_xpath/fencesforxpath/Particle$Occurrence", "optional", "()Lcom/example/fences_for_xpath/fencesforxpath/Particle$Occurrence;"⟩ : MethodName)) hown (mvT hZ (hw _ (List.mem_of_getElem? (i := 7) rfl))) (mvT hZ (hw _ (List.mem_of_getElem? (i := 8) rfl))) (notFace_of_selects (args := #[]) (mvT hZ (hw _ (List.mem_of_getElem? (i := 10) rfl)))) (mvT hZ (hw _ (List.mem_of_getElem? (i := 10) rfl))) (mvT hZ (hw _ (List.mem_of_getElem? (i := 9) rfl))) (by decide) (backOf (W := 0) (rm2 l Z a0 hw [] a_ONCE a_ONCE a_OPTIONAL a_ONE_OR_MORE a_ZERO_OR_MORE h0 n0 O0 FS) hZ (hw _ (List.mem_of_getElem? (i := 11) rfl)) (hw _ (List.mem_of_getElem? (i := 5) rfl)) (by decide) (by decide)) qa2 qc2 (g := (mkF m 6 #[.val (.int i0), .val (.ref a_ONCE), .unset] [(.ref a_ONCE)])) rfl (by rw [hml]; rfl) (Steps.refl _) (argsL := []) (rest := []) (lenOf pd_1 rfl) rfl (by show 2 * 0 + _ ≤ _; exact Nat.le_of_eq rfl) (hb hby at_6) (fun _ _ => ⟨rfl, eh1, (by decide : 0 + 0 ≤ _), (by decide : 0 + 0 ≤ _)⟩)
    dsimp only [Pt.U, Pt.locs, Pt.cells, Pt.slots] at X2 l2 y2 z2 st2 hQ2
    subst l2 y2 z2
    obtain ⟨rfl, Nq2, eh2⟩ := hQ2
    have N2 := Fr.app N1 Nq2
    refine Goes.via (B := T2.setTop (mkF m 9 #[.val (.int i0), .val (.ref a_ONCE), .unset] [(.ref (own_opt a_ONCE a_ONCE a_OPTIONAL a_ZERO_OR_MORE a_ONE_OR_MORE))])) st2 ?_
    rw [((by unfold own_opt; rw [if_pos rfl]) : (own_opt a_ONCE a_ONCE a_OPTIONAL a_ZERO_OR_MORE a_ONE_OR_MORE) = a_OPTIONAL)]
    refine Goes.step (B := T2.setTop (mkF m 10 #[.val (.int i0), .val (.ref a_ONCE), .val (.ref a_OPTIONAL)] [])) (fun _ k => XS.astoreN X2.here hx rfl (hb hby at_9) rfl rfl (l' := #[.val (.int i0), .val (.ref a_ONCE), .val (.ref a_OPTIONAL)]) rfl k) ?_
    refine Goes.step (B := T2.setTop (mkF m 11 #[.val (.int i0), .val (.ref a_ONCE), .val (.ref a_OPTIONAL)] [(.ref a_OPTIONAL)])) (fun _ k => XS.aloadN X2.here hx rfl (hb hby at_10) rfl rfl k) ?_
    refine Goes.step (B := T2.setTop (mkF m 16 #[.val (.int i0), .val (.ref a_ONCE), .val (.ref a_OPTIONAL)] [])) (fun _ k => XS.ifnonnullYes X2.here hx rfl (pc0 := 11) (pc' := 16) rfl (hb hby at_11) rfl (by decide) (by decide) k) ?_
    refine Goes.step (B := T2.setTop (mkF m 17 #[.val (.int i0), .val (.ref a_ONCE), .val (.ref a_OPTIONAL)] [(.ref a_OPTIONAL)])) (fun _ k => XS.aloadN X2.here hx rfl (hb hby at_16) rfl rfl k) ?_
    obtain ⟨_, _, ⟨T4, L4, k4, n4⟩, -, X4, ⟨Lc4, hQ4, l4, y4, z4⟩, st4⟩ := Jvm.LawKit.callS X2 hx (y := (⟨"com/example/fences_for_xpath/fencesforxpath/OccurrenceOptionalPinLaw", "minOf", "(Lcom/example/fences_for_xpath/fencesforxpath/Particle$Occurrence;)I"⟩ : MethodName)) hown (mvT hZ (hw _ (List.mem_of_getElem? (i := 15) rfl))) (mvT hZ (hw _ (List.mem_of_getElem? (i := 16) rfl))) (mvT hZ (hw _ (List.mem_of_getElem? (i := 2) rfl))) (mvT hZ (hw _ (List.mem_of_getElem? (i := 17) rfl))) (by decide) (backOf (W := 0) (rm3 l Z a0 hw [] a_OPTIONAL a_ONCE a_OPTIONAL a_ONE_OR_MORE a_ZERO_OR_MORE h0 n0 O0 FS) hZ (hw _ (List.mem_of_getElem? (i := 17) rfl)) (hw _ (List.mem_of_getElem? (i := 2) rfl)) (by decide) (by decide)) (g := (mkF m 17 #[.val (.int i0), .val (.ref a_ONCE), .val (.ref a_OPTIONAL)] [(.ref a_OPTIONAL)])) rfl (by rw [hml]; rfl) (argsL := [(.ref a_OPTIONAL)]) (rest := []) (lenOf pd_2 rfl) rfl (by show 2 * 0 + _ ≤ _; exact Nat.le_of_eq rfl) (hb hby at_17) (fun _ _ => ⟨rfl, eh2, (by decide : 0 + 0 ≤ _), (by decide : 0 + 0 ≤ _)⟩)
    dsimp only [Pt.U, Pt.locs, Pt.cells, Pt.slots] at X4 l4 y4 z4 st4 hQ4
    subst l4 y4 z4
    obtain ⟨rfl, Nq4, eh4⟩ := hQ4
    have N4 := Fr.app N2 Nq4
    refine Goes.step (B := T4.setTop (mkF m 20 #[.val (.int i0), .val (.ref a_ONCE), .val (.ref a_OPTIONAL)] [(.int (own_min a_OPTIONAL a_ONCE a_ONE_OR_MORE))])) st4 ?_
    rw [((by unfold own_min; rw [if_neg ne_a_OPTIONAL_a_ONCE, if_neg ne_a_OPTIONAL_a_ONE_OR_MORE]) : (own_min a_OPTIONAL a_ONCE a_ONE_OR_MORE) = (0 : Int32))]
    refine Goes.step (B := T4.setTop (mkF m 23 #[.val (.int i0), .val (.ref a_ONCE), .val (.ref a_OPTIONAL)] [])) (fun _ k => XS.ifNo X4.here hx rfl (hb hby at_20) rfl ((if0 _ _).trans (teq (by decide)).2) k) ?_
    refine Goes.step (B := T4.setTop (mkF m 24 #[.val (.int i0), .val (.ref a_ONCE), .val (.ref a_OPTIONAL)] [(.ref a_OPTIONAL)])) (fun _ k => XS.aloadN X4.here hx rfl (hb hby at_23) rfl rfl k) ?_
    obtain ⟨_, _, ⟨T5, L5, k5, n5⟩, -, X5, ⟨Lc5, hQ5, l5, y5, z5⟩, st5⟩ := Jvm.LawKit.callS X4 hx (y := (⟨"com/example/fences_for_xpath/fencesforxpath/OccurrenceOptionalPinLaw", "maxOf", "(Lcom/example/fences_for_xpath/fencesforxpath/Particle$Occurrence;)I"⟩ : MethodName)) hown (mvT hZ (hw _ (List.mem_of_getElem? (i := 20) rfl))) (mvT hZ (hw _ (List.mem_of_getElem? (i := 21) rfl))) (mvT hZ (hw _ (List.mem_of_getElem? (i := 2) rfl))) (mvT hZ (hw _ (List.mem_of_getElem? (i := 22) rfl))) (by decide) (backOf (W := 0) (rm4 l Z a0 hw [] a_OPTIONAL a_ONCE a_OPTIONAL a_ONE_OR_MORE a_ZERO_OR_MORE h0 n0 O0 FS) hZ (hw _ (List.mem_of_getElem? (i := 22) rfl)) (hw _ (List.mem_of_getElem? (i := 2) rfl)) (by decide) (by decide)) (g := (mkF m 24 #[.val (.int i0), .val (.ref a_ONCE), .val (.ref a_OPTIONAL)] [(.ref a_OPTIONAL)])) rfl (by rw [hml]; rfl) (argsL := [(.ref a_OPTIONAL)]) (rest := []) (lenOf pd_2 rfl) rfl (by show 2 * 0 + _ ≤ _; exact Nat.le_of_eq rfl) (hb hby at_24) (fun _ _ => ⟨rfl, eh4, (by decide : 0 + 0 ≤ _), (by decide : 0 + 0 ≤ _)⟩)
    dsimp only [Pt.U, Pt.locs, Pt.cells, Pt.slots] at X5 l5 y5 z5 st5 hQ5
    subst l5 y5 z5
    obtain ⟨rfl, Nq5, eh5⟩ := hQ5
    have N5 := Fr.app N4 Nq5
    refine Goes.step (B := T5.setTop (mkF m 27 #[.val (.int i0), .val (.ref a_ONCE), .val (.ref a_OPTIONAL)] [(.int (own_max a_OPTIONAL a_ONCE a_OPTIONAL))])) st5 ?_
    rw [((by unfold own_max; rw [if_neg ne_a_OPTIONAL_a_ONCE, if_pos rfl]) : (own_max a_OPTIONAL a_ONCE a_OPTIONAL) = (1 : Int32))]
    refine Goes.step (B := T5.setTop (mkF m 28 #[.val (.int i0), .val (.ref a_ONCE), .val (.ref a_OPTIONAL)] [(.ref a_ONCE), (.int (1 : Int32))])) (fun _ k => XS.aloadN X5.here hx rfl (hb hby at_27) rfl rfl k) ?_
    obtain ⟨_, _, ⟨T6, L6, k6, n6⟩, -, X6, ⟨Lc6, hQ6, l6, y6, z6⟩, st6⟩ := Jvm.LawKit.callS X5 hx (y := (⟨"com/example/fences_for_xpath/fencesforxpath/OccurrenceOptionalPinLaw", "maxOf", "(Lcom/example/fences_for_xpath/fencesforxpath/Particle$Occurrence;)I"⟩ : MethodName)) hown (mvT hZ (hw _ (List.mem_of_getElem? (i := 20) rfl))) (mvT hZ (hw _ (List.mem_of_getElem? (i := 21) rfl))) (mvT hZ (hw _ (List.mem_of_getElem? (i := 2) rfl))) (mvT hZ (hw _ (List.mem_of_getElem? (i := 22) rfl))) (by decide) (backOf (W := 1) (rm4 l Z a0 hw [] a_ONCE a_ONCE a_OPTIONAL a_ONE_OR_MORE a_ZERO_OR_MORE h0 n0 O0 FS) hZ (hw _ (List.mem_of_getElem? (i := 22) rfl)) (hw _ (List.mem_of_getElem? (i := 2) rfl)) (by decide) (by decide)) (g := (mkF m 28 #[.val (.int i0), .val (.ref a_ONCE), .val (.ref a_OPTIONAL)] [(.ref a_ONCE), (.int (1 : Int32))])) rfl (by rw [hml]; rfl) (argsL := [(.ref a_ONCE)]) (rest := [(.int (1 : Int32))]) (lenOf pd_2 rfl) rfl (by show 2 * 0 + _ ≤ _; exact Nat.le_of_eq rfl) (hb hby at_28) (fun _ _ => ⟨rfl, eh5, (by decide : 0 + 0 ≤ _), (by decide : 0 + 0 ≤ _)⟩)
    dsimp only [Pt.U, Pt.locs, Pt.cells, Pt.slots] at X6 l6 y6 z6 st6 hQ6
    subst l6 y6 z6
    obtain ⟨rfl, Nq6, eh6⟩ := hQ6
    have N6 := Fr.app N5 Nq6
    refine Goes.step (B := T6.setTop (mkF m 31 #[.val (.int i0), .val (.ref a_ONCE), .val (.ref a_OPTIONAL)] [(.int (own_max a_ONCE a_ONCE a_OPTIONAL)), (.int (1 : Int32))])) st6 ?_
    rw [((by unfold own_max; rw [if_pos rfl]) : (own_max a_ONCE a_ONCE a_OPTIONAL) = (1 : Int32))]
    refine Goes.step (B := T6.setTop (mkF m 34 #[.val (.int i0), .val (.ref a_ONCE), .val (.ref a_OPTIONAL)] [])) (fun _ k => XS.icmpNo X6.here hx rfl (hb hby at_31) rfl (teq (by decide)).2 k) ?_
    refine Goes.step (B := T6.setTop (mkF m 35 #[.val (.int i0), .val (.ref a_ONCE), .val (.ref a_OPTIONAL)] [(.ref a_OPTIONAL)])) (fun _ k => XS.aloadN X6.here hx rfl (hb hby at_34) rfl rfl k) ?_
    have f8 := E_OPTIONAL.ext O0.2
    obtain ⟨cq7, kq7, qa7, qb7, qc7⟩ := isOf hZ eh6 f8
    obtain ⟨_, _, ⟨T7, L7, k7, n7⟩, -, X7, ⟨Lc7, hQ7, l7, y7, z7⟩, st7⟩ := X6.virtualBack hx (y := (⟨"com/example/fences_for_xpath/fencesforxpath/Particle$Occurrence", "optional", "()Lcom/example/fences_for_xpath/fencesforxpath/Particle$Occurrence;"⟩ : MethodName)) (z := (⟨"com/example/fences_for_xpath/fencesforxpath/Particle$Occurrence", "optional", "()Lcom/example/fences_for_xpath/fencesforxpath/Particle$Occurrence;"⟩ : MethodName)) hown (mvT hZ (hw _ (List.mem_of_getElem? (i := 7) rfl))) (mvT hZ (hw _ (List.mem_of_getElem? (i := 8) rfl))) (notFace_of_selects (args := #[]) (mvT hZ (hw _ (List.mem_of_getElem? (i := 10) rfl)))) (mvT hZ (hw _ (List.mem_of_getElem? (i := 10) rfl))) (mvT hZ (hw _ (List.mem_of_getElem? (i := 9) rfl))) (by decide) (backOf (W := 0) (rm2 l Z a0 hw [] a_OPTIONAL a_ONCE a_OPTIONAL a_ONE_OR_MORE a_ZERO_OR_MORE h0 n0 O0 FS) hZ (hw _ (List.mem_of_getElem? (i := 11) rfl)) (hw _ (List.mem_of_getElem? (i := 5) rfl)) (by decide) (by decide)) qa7 qc7 (g := (mkF m 35 #[.val (.int i0), .val (.ref a_ONCE), .val (.ref a_OPTIONAL)] [(.ref a_OPTIONAL)])) rfl (by rw [hml]; rfl) (Steps.refl _) (argsL := []) (rest := []) (lenOf pd_1 rfl) rfl (by show 2 * 0 + _ ≤ _; exact Nat.le_of_eq rfl) (hb hby at_35) (fun _ _ => ⟨rfl, eh6, (by decide : 0 + 0 ≤ _), (by decide : 0 + 0 ≤ _)⟩)
    dsimp only [Pt.U, Pt.locs, Pt.cells, Pt.slots] at X7 l7 y7 z7 st7 hQ7
    subst l7 y7 z7
    obtain ⟨rfl, Nq7, eh7⟩ := hQ7
    have N7 := Fr.app N6 Nq7
    refine Goes.via (B := T7.setTop (mkF m 38 #[.val (.int i0), .val (.ref a_ONCE), .val (.ref a_OPTIONAL)] [(.ref (own_opt a_OPTIONAL a_ONCE a_OPTIONAL a_ZERO_OR_MORE a_ONE_OR_MORE))])) st7 ?_
    rw [((by unfold own_opt; rw [if_neg ne_a_OPTIONAL_a_ONCE, if_neg ne_a_OPTIONAL_a_ONE_OR_MORE]) : (own_opt a_OPTIONAL a_ONCE a_OPTIONAL a_ZERO_OR_MORE a_ONE_OR_MORE) = a_OPTIONAL)]
    refine Goes.step (B := T7.setTop (mkF m 39 #[.val (.int i0), .val (.ref a_ONCE), .val (.ref a_OPTIONAL)] [(.ref a_OPTIONAL), (.ref a_OPTIONAL)])) (fun _ k => XS.aloadN X7.here hx rfl (hb hby at_38) rfl rfl k) ?_
    refine Goes.step (B := T7.setTop (mkF m 42 #[.val (.int i0), .val (.ref a_ONCE), .val (.ref a_OPTIONAL)] [])) (fun _ k => Jvm.RoadKit.acmp (g := (mkF m 39 #[.val (.int i0), .val (.ref a_ONCE), .val (.ref a_OPTIONAL)] [(.ref a_OPTIONAL), (.ref a_OPTIONAL)])) X7 hx rfl rfl rfl (pc0 := 39) (pc' := 42) (same := true) rfl (hb hby at_39) rfl (decide_eq_true rfl) (by decide) (by decide) k) ?_
    refine Goes.step (B := T7.setTop (mkF m 43 #[.val (.int i0), .val (.ref a_ONCE), .val (.ref a_OPTIONAL)] [(.int (1 : Int32))])) (fun _ k => XS.iconst X7.here hx rfl (hb hby at_42) k) ?_
    refine Goes.step (B := T7.setTop (mkF m 47 #[.val (.int i0), .val (.ref a_ONCE), .val (.ref a_OPTIONAL)] [(.int (1 : Int32))])) (fun _ k => XS.goto X7.here hx rfl (pc0 := 43) (pc' := 47) rfl (hb hby at_43) (by decide) (by decide) k) ?_
    exact Goes.retN X7 hx eh7 (t := .boolean) Bd.returns (by simp) hlk (hb hby at_47) (by decide) (by decide) (⟨rfl, N7⟩)
  · refine Goes.step (B := s₁.setTop (mkF m 1 #[.val (.int i0), .unset, .unset] [(.int i0)])) (fun _ k => XS.iloadN X0.here hx rfl (hb hby at_0) rfl k) ?_
    obtain ⟨_, _, ⟨T9, L9, k9, n9⟩, -, X9, ⟨Lc9, hQ9, l9, y9, z9⟩, st9⟩ := Jvm.LawKit.callS X0 hx (y := (⟨"com/example/fences_for_xpath/fencesforxpath/OccurrenceOptionalPinLaw", "pick", "(I)Lcom/example/fences_for_xpath/fencesforxpath/Particle$Occurrence;"⟩ : MethodName)) hown (mvT hZ (hw _ (List.mem_of_getElem? (i := 0) rfl))) (mvT hZ (hw _ (List.mem_of_getElem? (i := 1) rfl))) (mvT hZ (hw _ (List.mem_of_getElem? (i := 2) rfl))) (mvT hZ (hw _ (List.mem_of_getElem? (i := 3) rfl))) (by decide) (backOf (W := 0) (rm1 l Z a0 hw [] i0 a_ONCE a_OPTIONAL a_ONE_OR_MORE a_ZERO_OR_MORE h0 n0 O0 FS) hZ (hw _ (List.mem_of_getElem? (i := 3) rfl)) (hw _ (List.mem_of_getElem? (i := 2) rfl)) (by decide) (by decide)) (g := (mkF m 1 #[.val (.int i0), .unset, .unset] [(.int i0)])) rfl (by rw [hml]; rfl) (argsL := [(.int i0)]) (rest := []) (lenOf pd_0 rfl) rfl (by show 2 * 0 + _ ≤ _; exact Nat.le_of_eq rfl) (hb hby at_1) (fun _ _ => ⟨rfl, e0, (by decide : 0 + 0 ≤ _), (by decide : 0 + 0 ≤ _)⟩)
    dsimp only [Pt.U, Pt.locs, Pt.cells, Pt.slots] at X9 l9 y9 z9 st9 hQ9
    subst l9 y9 z9
    obtain ⟨rfl, Nq9, eh9⟩ := hQ9
    have N9 := Fr.app N0 Nq9
    refine Goes.step (B := T9.setTop (mkF m 4 #[.val (.int i0), .unset, .unset] [(.ref (own_pick (i0 &&& (3 : Int32)) a_ONCE a_OPTIONAL a_ZERO_OR_MORE a_ONE_OR_MORE))])) st9 ?_
    rw [(by rw [← hiv]; rfl : (own_pick (i0 &&& (3 : Int32)) a_ONCE a_OPTIONAL a_ZERO_OR_MORE a_ONE_OR_MORE) = a_OPTIONAL)]
    refine Goes.step (B := T9.setTop (mkF m 5 #[.val (.int i0), .val (.ref a_OPTIONAL), .unset] [])) (fun _ k => XS.astoreN X9.here hx rfl (hb hby at_4) rfl rfl (l' := #[.val (.int i0), .val (.ref a_OPTIONAL), .unset]) rfl k) ?_
    refine Goes.step (B := T9.setTop (mkF m 6 #[.val (.int i0), .val (.ref a_OPTIONAL), .unset] [(.ref a_OPTIONAL)])) (fun _ k => XS.aloadN X9.here hx rfl (hb hby at_5) rfl rfl k) ?_
    have f11 := E_OPTIONAL.ext O0.2
    obtain ⟨cq10, kq10, qa10, qb10, qc10⟩ := isOf hZ eh9 f11
    obtain ⟨_, _, ⟨T10, L10, k10, n10⟩, -, X10, ⟨Lc10, hQ10, l10, y10, z10⟩, st10⟩ := X9.virtualBack hx (y := (⟨"com/example/fences_for_xpath/fencesforxpath/Particle$Occurrence", "optional", "()Lcom/example/fences_for_xpath/fencesforxpath/Particle$Occurrence;"⟩ : MethodName)) (z := (⟨"com/example/fences_for_xpath/fencesforxpath/Particle$Occurrence", "optional", "()Lcom/example/fences_for_xpath/fencesforxpath/Particle$Occurrence;"⟩ : MethodName)) hown (mvT hZ (hw _ (List.mem_of_getElem? (i := 7) rfl))) (mvT hZ (hw _ (List.mem_of_getElem? (i := 8) rfl))) (notFace_of_selects (args := #[]) (mvT hZ (hw _ (List.mem_of_getElem? (i := 10) rfl)))) (mvT hZ (hw _ (List.mem_of_getElem? (i := 10) rfl))) (mvT hZ (hw _ (List.mem_of_getElem? (i := 9) rfl))) (by decide) (backOf (W := 0) (rm2 l Z a0 hw [] a_OPTIONAL a_ONCE a_OPTIONAL a_ONE_OR_MORE a_ZERO_OR_MORE h0 n0 O0 FS) hZ (hw _ (List.mem_of_getElem? (i := 11) rfl)) (hw _ (List.mem_of_getElem? (i := 5) rfl)) (by decide) (by decide)) qa10 qc10 (g := (mkF m 6 #[.val (.int i0), .val (.ref a_OPTIONAL), .unset] [(.ref a_OPTIONAL)])) rfl (by rw [hml]; rfl) (Steps.refl _) (argsL := []) (rest := []) (lenOf pd_1 rfl) rfl (by show 2 * 0 + _ ≤ _; exact Nat.le_of_eq rfl) (hb hby at_6) (fun _ _ => ⟨rfl, eh9, (by decide : 0 + 0 ≤ _), (by decide : 0 + 0 ≤ _)⟩)
    dsimp only [Pt.U, Pt.locs, Pt.cells, Pt.slots] at X10 l10 y10 z10 st10 hQ10
    subst l10 y10 z10
    obtain ⟨rfl, Nq10, eh10⟩ := hQ10
    have N10 := Fr.app N9 Nq10
    refine Goes.via (B := T10.setTop (mkF m 9 #[.val (.int i0), .val (.ref a_OPTIONAL), .unset] [(.ref (own_opt a_OPTIONAL a_ONCE a_OPTIONAL a_ZERO_OR_MORE a_ONE_OR_MORE))])) st10 ?_
    rw [((by unfold own_opt; rw [if_neg ne_a_OPTIONAL_a_ONCE, if_neg ne_a_OPTIONAL_a_ONE_OR_MORE]) : (own_opt a_OPTIONAL a_ONCE a_OPTIONAL a_ZERO_OR_MORE a_ONE_OR_MORE) = a_OPTIONAL)]
    refine Goes.step (B := T10.setTop (mkF m 10 #[.val (.int i0), .val (.ref a_OPTIONAL), .val (.ref a_OPTIONAL)] [])) (fun _ k => XS.astoreN X10.here hx rfl (hb hby at_9) rfl rfl (l' := #[.val (.int i0), .val (.ref a_OPTIONAL), .val (.ref a_OPTIONAL)]) rfl k) ?_
    refine Goes.step (B := T10.setTop (mkF m 11 #[.val (.int i0), .val (.ref a_OPTIONAL), .val (.ref a_OPTIONAL)] [(.ref a_OPTIONAL)])) (fun _ k => XS.aloadN X10.here hx rfl (hb hby at_10) rfl rfl k) ?_
    refine Goes.step (B := T10.setTop (mkF m 16 #[.val (.int i0), .val (.ref a_OPTIONAL), .val (.ref a_OPTIONAL)] [])) (fun _ k => XS.ifnonnullYes X10.here hx rfl (pc0 := 11) (pc' := 16) rfl (hb hby at_11) rfl (by decide) (by decide) k) ?_
    refine Goes.step (B := T10.setTop (mkF m 17 #[.val (.int i0), .val (.ref a_OPTIONAL), .val (.ref a_OPTIONAL)] [(.ref a_OPTIONAL)])) (fun _ k => XS.aloadN X10.here hx rfl (hb hby at_16) rfl rfl k) ?_
    obtain ⟨_, _, ⟨T12, L12, k12, n12⟩, -, X12, ⟨Lc12, hQ12, l12, y12, z12⟩, st12⟩ := Jvm.LawKit.callS X10 hx (y := (⟨"com/example/fences_for_xpath/fencesforxpath/OccurrenceOptionalPinLaw", "minOf", "(Lcom/example/fences_for_xpath/fencesforxpath/Particle$Occurrence;)I"⟩ : MethodName)) hown (mvT hZ (hw _ (List.mem_of_getElem? (i := 15) rfl))) (mvT hZ (hw _ (List.mem_of_getElem? (i := 16) rfl))) (mvT hZ (hw _ (List.mem_of_getElem? (i := 2) rfl))) (mvT hZ (hw _ (List.mem_of_getElem? (i := 17) rfl))) (by decide) (backOf (W := 0) (rm3 l Z a0 hw [] a_OPTIONAL a_ONCE a_OPTIONAL a_ONE_OR_MORE a_ZERO_OR_MORE h0 n0 O0 FS) hZ (hw _ (List.mem_of_getElem? (i := 17) rfl)) (hw _ (List.mem_of_getElem? (i := 2) rfl)) (by decide) (by decide)) (g := (mkF m 17 #[.val (.int i0), .val (.ref a_OPTIONAL), .val (.ref a_OPTIONAL)] [(.ref a_OPTIONAL)])) rfl (by rw [hml]; rfl) (argsL := [(.ref a_OPTIONAL)]) (rest := []) (lenOf pd_2 rfl) rfl (by show 2 * 0 + _ ≤ _; exact Nat.le_of_eq rfl) (hb hby at_17) (fun _ _ => ⟨rfl, eh10, (by decide : 0 + 0 ≤ _), (by decide : 0 + 0 ≤ _)⟩)
    dsimp only [Pt.U, Pt.locs, Pt.cells, Pt.slots] at X12 l12 y12 z12 st12 hQ12
    subst l12 y12 z12
    obtain ⟨rfl, Nq12, eh12⟩ := hQ12
    have N12 := Fr.app N10 Nq12
    refine Goes.step (B := T12.setTop (mkF m 20 #[.val (.int i0), .val (.ref a_OPTIONAL), .val (.ref a_OPTIONAL)] [(.int (own_min a_OPTIONAL a_ONCE a_ONE_OR_MORE))])) st12 ?_
    rw [((by unfold own_min; rw [if_neg ne_a_OPTIONAL_a_ONCE, if_neg ne_a_OPTIONAL_a_ONE_OR_MORE]) : (own_min a_OPTIONAL a_ONCE a_ONE_OR_MORE) = (0 : Int32))]
    refine Goes.step (B := T12.setTop (mkF m 23 #[.val (.int i0), .val (.ref a_OPTIONAL), .val (.ref a_OPTIONAL)] [])) (fun _ k => XS.ifNo X12.here hx rfl (hb hby at_20) rfl ((if0 _ _).trans (teq (by decide)).2) k) ?_
    refine Goes.step (B := T12.setTop (mkF m 24 #[.val (.int i0), .val (.ref a_OPTIONAL), .val (.ref a_OPTIONAL)] [(.ref a_OPTIONAL)])) (fun _ k => XS.aloadN X12.here hx rfl (hb hby at_23) rfl rfl k) ?_
    obtain ⟨_, _, ⟨T13, L13, k13, n13⟩, -, X13, ⟨Lc13, hQ13, l13, y13, z13⟩, st13⟩ := Jvm.LawKit.callS X12 hx (y := (⟨"com/example/fences_for_xpath/fencesforxpath/OccurrenceOptionalPinLaw", "maxOf", "(Lcom/example/fences_for_xpath/fencesforxpath/Particle$Occurrence;)I"⟩ : MethodName)) hown (mvT hZ (hw _ (List.mem_of_getElem? (i := 20) rfl))) (mvT hZ (hw _ (List.mem_of_getElem? (i := 21) rfl))) (mvT hZ (hw _ (List.mem_of_getElem? (i := 2) rfl))) (mvT hZ (hw _ (List.mem_of_getElem? (i := 22) rfl))) (by decide) (backOf (W := 0) (rm4 l Z a0 hw [] a_OPTIONAL a_ONCE a_OPTIONAL a_ONE_OR_MORE a_ZERO_OR_MORE h0 n0 O0 FS) hZ (hw _ (List.mem_of_getElem? (i := 22) rfl)) (hw _ (List.mem_of_getElem? (i := 2) rfl)) (by decide) (by decide)) (g := (mkF m 24 #[.val (.int i0), .val (.ref a_OPTIONAL), .val (.ref a_OPTIONAL)] [(.ref a_OPTIONAL)])) rfl (by rw [hml]; rfl) (argsL := [(.ref a_OPTIONAL)]) (rest := []) (lenOf pd_2 rfl) rfl (by show 2 * 0 + _ ≤ _; exact Nat.le_of_eq rfl) (hb hby at_24) (fun _ _ => ⟨rfl, eh12, (by decide : 0 + 0 ≤ _), (by decide : 0 + 0 ≤ _)⟩)
    dsimp only [Pt.U, Pt.locs, Pt.cells, Pt.slots] at X13 l13 y13 z13 st13 hQ13
    subst l13 y13 z13
    obtain ⟨rfl, Nq13, eh13⟩ := hQ13
    have N13 := Fr.app N12 Nq13
    refine Goes.step (B := T13.setTop (mkF m 27 #[.val (.int i0), .val (.ref a_OPTIONAL), .val (.ref a_OPTIONAL)] [(.int (own_max a_OPTIONAL a_ONCE a_OPTIONAL))])) st13 ?_
    rw [((by unfold own_max; rw [if_neg ne_a_OPTIONAL_a_ONCE, if_pos rfl]) : (own_max a_OPTIONAL a_ONCE a_OPTIONAL) = (1 : Int32))]
    refine Goes.step (B := T13.setTop (mkF m 28 #[.val (.int i0), .val (.ref a_OPTIONAL), .val (.ref a_OPTIONAL)] [(.ref a_OPTIONAL), (.int (1 : Int32))])) (fun _ k => XS.aloadN X13.here hx rfl (hb hby at_27) rfl rfl k) ?_
    obtain ⟨_, _, ⟨T14, L14, k14, n14⟩, -, X14, ⟨Lc14, hQ14, l14, y14, z14⟩, st14⟩ := Jvm.LawKit.callS X13 hx (y := (⟨"com/example/fences_for_xpath/fencesforxpath/OccurrenceOptionalPinLaw", "maxOf", "(Lcom/example/fences_for_xpath/fencesforxpath/Particle$Occurrence;)I"⟩ : MethodName)) hown (mvT hZ (hw _ (List.mem_of_getElem? (i := 20) rfl))) (mvT hZ (hw _ (List.mem_of_getElem? (i := 21) rfl))) (mvT hZ (hw _ (List.mem_of_getElem? (i := 2) rfl))) (mvT hZ (hw _ (List.mem_of_getElem? (i := 22) rfl))) (by decide) (backOf (W := 1) (rm4 l Z a0 hw [] a_OPTIONAL a_ONCE a_OPTIONAL a_ONE_OR_MORE a_ZERO_OR_MORE h0 n0 O0 FS) hZ (hw _ (List.mem_of_getElem? (i := 22) rfl)) (hw _ (List.mem_of_getElem? (i := 2) rfl)) (by decide) (by decide)) (g := (mkF m 28 #[.val (.int i0), .val (.ref a_OPTIONAL), .val (.ref a_OPTIONAL)] [(.ref a_OPTIONAL), (.int (1 : Int32))])) rfl (by rw [hml]; rfl) (argsL := [(.ref a_OPTIONAL)]) (rest := [(.int (1 : Int32))]) (lenOf pd_2 rfl) rfl (by show 2 * 0 + _ ≤ _; exact Nat.le_of_eq rfl) (hb hby at_28) (fun _ _ => ⟨rfl, eh13, (by decide : 0 + 0 ≤ _), (by decide : 0 + 0 ≤ _)⟩)
    dsimp only [Pt.U, Pt.locs, Pt.cells, Pt.slots] at X14 l14 y14 z14 st14 hQ14
    subst l14 y14 z14
    obtain ⟨rfl, Nq14, eh14⟩ := hQ14
    have N14 := Fr.app N13 Nq14
    refine Goes.step (B := T14.setTop (mkF m 31 #[.val (.int i0), .val (.ref a_OPTIONAL), .val (.ref a_OPTIONAL)] [(.int (own_max a_OPTIONAL a_ONCE a_OPTIONAL)), (.int (1 : Int32))])) st14 ?_
    rw [((by unfold own_max; rw [if_neg ne_a_OPTIONAL_a_ONCE, if_pos rfl]) : (own_max a_OPTIONAL a_ONCE a_OPTIONAL) = (1 : Int32))]
    refine Goes.step (B := T14.setTop (mkF m 34 #[.val (.int i0), .val (.ref a_OPTIONAL), .val (.ref a_OPTIONAL)] [])) (fun _ k => XS.icmpNo X14.here hx rfl (hb hby at_31) rfl (teq (by decide)).2 k) ?_
    refine Goes.step (B := T14.setTop (mkF m 35 #[.val (.int i0), .val (.ref a_OPTIONAL), .val (.ref a_OPTIONAL)] [(.ref a_OPTIONAL)])) (fun _ k => XS.aloadN X14.here hx rfl (hb hby at_34) rfl rfl k) ?_
    obtain ⟨cq15, kq15, qa15, qb15, qc15⟩ := isOf hZ eh14 f11
    obtain ⟨_, _, ⟨T15, L15, k15, n15⟩, -, X15, ⟨Lc15, hQ15, l15, y15, z15⟩, st15⟩ := X14.virtualBack hx (y := (⟨"com/example/fences_for_xpath/fencesforxpath/Particle$Occurrence", "optional", "()Lcom/example/fences_for_xpath/fencesforxpath/Particle$Occurrence;"⟩ : MethodName)) (z := (⟨"com/example/fences_for_xpath/fencesforxpath/Particle$Occurrence", "optional", "()Lcom/example/fences_for_xpath/fencesforxpath/Particle$Occurrence;"⟩ : MethodName)) hown (mvT hZ (hw _ (List.mem_of_getElem? (i := 7) rfl))) (mvT hZ (hw _ (List.mem_of_getElem? (i := 8) rfl))) (notFace_of_selects (args := #[]) (mvT hZ (hw _ (List.mem_of_getElem? (i := 10) rfl)))) (mvT hZ (hw _ (List.mem_of_getElem? (i := 10) rfl))) (mvT hZ (hw _ (List.mem_of_getElem? (i := 9) rfl))) (by decide) (backOf (W := 0) (rm2 l Z a0 hw [] a_OPTIONAL a_ONCE a_OPTIONAL a_ONE_OR_MORE a_ZERO_OR_MORE h0 n0 O0 FS) hZ (hw _ (List.mem_of_getElem? (i := 11) rfl)) (hw _ (List.mem_of_getElem? (i := 5) rfl)) (by decide) (by decide)) qa15 qc15 (g := (mkF m 35 #[.val (.int i0), .val (.ref a_OPTIONAL), .val (.ref a_OPTIONAL)] [(.ref a_OPTIONAL)])) rfl (by rw [hml]; rfl) (Steps.refl _) (argsL := []) (rest := []) (lenOf pd_1 rfl) rfl (by show 2 * 0 + _ ≤ _; exact Nat.le_of_eq rfl) (hb hby at_35) (fun _ _ => ⟨rfl, eh14, (by decide : 0 + 0 ≤ _), (by decide : 0 + 0 ≤ _)⟩)
    dsimp only [Pt.U, Pt.locs, Pt.cells, Pt.slots] at X15 l15 y15 z15 st15 hQ15
    subst l15 y15 z15
    obtain ⟨rfl, Nq15, eh15⟩ := hQ15
    have N15 := Fr.app N14 Nq15
    refine Goes.via (B := T15.setTop (mkF m 38 #[.val (.int i0), .val (.ref a_OPTIONAL), .val (.ref a_OPTIONAL)] [(.ref (own_opt a_OPTIONAL a_ONCE a_OPTIONAL a_ZERO_OR_MORE a_ONE_OR_MORE))])) st15 ?_
    rw [((by unfold own_opt; rw [if_neg ne_a_OPTIONAL_a_ONCE, if_neg ne_a_OPTIONAL_a_ONE_OR_MORE]) : (own_opt a_OPTIONAL a_ONCE a_OPTIONAL a_ZERO_OR_MORE a_ONE_OR_MORE) = a_OPTIONAL)]
    refine Goes.step (B := T15.setTop (mkF m 39 #[.val (.int i0), .val (.ref a_OPTIONAL), .val (.ref a_OPTIONAL)] [(.ref a_OPTIONAL), (.ref a_OPTIONAL)])) (fun _ k => XS.aloadN X15.here hx rfl (hb hby at_38) rfl rfl k) ?_
    refine Goes.step (B := T15.setTop (mkF m 42 #[.val (.int i0), .val (.ref a_OPTIONAL), .val (.ref a_OPTIONAL)] [])) (fun _ k => Jvm.RoadKit.acmp (g := (mkF m 39 #[.val (.int i0), .val (.ref a_OPTIONAL), .val (.ref a_OPTIONAL)] [(.ref a_OPTIONAL), (.ref a_OPTIONAL)])) X15 hx rfl rfl rfl (pc0 := 39) (pc' := 42) (same := true) rfl (hb hby at_39) rfl (decide_eq_true rfl) (by decide) (by decide) k) ?_
    refine Goes.step (B := T15.setTop (mkF m 43 #[.val (.int i0), .val (.ref a_OPTIONAL), .val (.ref a_OPTIONAL)] [(.int (1 : Int32))])) (fun _ k => XS.iconst X15.here hx rfl (hb hby at_42) k) ?_
    refine Goes.step (B := T15.setTop (mkF m 47 #[.val (.int i0), .val (.ref a_OPTIONAL), .val (.ref a_OPTIONAL)] [(.int (1 : Int32))])) (fun _ k => XS.goto X15.here hx rfl (pc0 := 43) (pc' := 47) rfl (hb hby at_43) (by decide) (by decide) k) ?_
    exact Goes.retN X15 hx eh15 (t := .boolean) Bd.returns (by simp) hlk (hb hby at_47) (by decide) (by decide) (⟨rfl, N15⟩)
  · refine Goes.step (B := s₁.setTop (mkF m 1 #[.val (.int i0), .unset, .unset] [(.int i0)])) (fun _ k => XS.iloadN X0.here hx rfl (hb hby at_0) rfl k) ?_
    obtain ⟨_, _, ⟨T16, L16, k16, n16⟩, -, X16, ⟨Lc16, hQ16, l16, y16, z16⟩, st16⟩ := Jvm.LawKit.callS X0 hx (y := (⟨"com/example/fences_for_xpath/fencesforxpath/OccurrenceOptionalPinLaw", "pick", "(I)Lcom/example/fences_for_xpath/fencesforxpath/Particle$Occurrence;"⟩ : MethodName)) hown (mvT hZ (hw _ (List.mem_of_getElem? (i := 0) rfl))) (mvT hZ (hw _ (List.mem_of_getElem? (i := 1) rfl))) (mvT hZ (hw _ (List.mem_of_getElem? (i := 2) rfl))) (mvT hZ (hw _ (List.mem_of_getElem? (i := 3) rfl))) (by decide) (backOf (W := 0) (rm1 l Z a0 hw [] i0 a_ONCE a_OPTIONAL a_ONE_OR_MORE a_ZERO_OR_MORE h0 n0 O0 FS) hZ (hw _ (List.mem_of_getElem? (i := 3) rfl)) (hw _ (List.mem_of_getElem? (i := 2) rfl)) (by decide) (by decide)) (g := (mkF m 1 #[.val (.int i0), .unset, .unset] [(.int i0)])) rfl (by rw [hml]; rfl) (argsL := [(.int i0)]) (rest := []) (lenOf pd_0 rfl) rfl (by show 2 * 0 + _ ≤ _; exact Nat.le_of_eq rfl) (hb hby at_1) (fun _ _ => ⟨rfl, e0, (by decide : 0 + 0 ≤ _), (by decide : 0 + 0 ≤ _)⟩)
    dsimp only [Pt.U, Pt.locs, Pt.cells, Pt.slots] at X16 l16 y16 z16 st16 hQ16
    subst l16 y16 z16
    obtain ⟨rfl, Nq16, eh16⟩ := hQ16
    have N16 := Fr.app N0 Nq16
    refine Goes.step (B := T16.setTop (mkF m 4 #[.val (.int i0), .unset, .unset] [(.ref (own_pick (i0 &&& (3 : Int32)) a_ONCE a_OPTIONAL a_ZERO_OR_MORE a_ONE_OR_MORE))])) st16 ?_
    rw [(by rw [← hiv]; rfl : (own_pick (i0 &&& (3 : Int32)) a_ONCE a_OPTIONAL a_ZERO_OR_MORE a_ONE_OR_MORE) = a_ZERO_OR_MORE)]
    refine Goes.step (B := T16.setTop (mkF m 5 #[.val (.int i0), .val (.ref a_ZERO_OR_MORE), .unset] [])) (fun _ k => XS.astoreN X16.here hx rfl (hb hby at_4) rfl rfl (l' := #[.val (.int i0), .val (.ref a_ZERO_OR_MORE), .unset]) rfl k) ?_
    refine Goes.step (B := T16.setTop (mkF m 6 #[.val (.int i0), .val (.ref a_ZERO_OR_MORE), .unset] [(.ref a_ZERO_OR_MORE)])) (fun _ k => XS.aloadN X16.here hx rfl (hb hby at_5) rfl rfl k) ?_
    have f18 := E_ZERO_OR_MORE.ext O0.2
    obtain ⟨cq17, kq17, qa17, qb17, qc17⟩ := isOf hZ eh16 f18
    obtain ⟨_, _, ⟨T17, L17, k17, n17⟩, -, X17, ⟨Lc17, hQ17, l17, y17, z17⟩, st17⟩ := X16.virtualBack hx (y := (⟨"com/example/fences_for_xpath/fencesforxpath/Particle$Occurrence", "optional", "()Lcom/example/fences_for_xpath/fencesforxpath/Particle$Occurrence;"⟩ : MethodName)) (z := (⟨"com/example/fences_for_xpath/fencesforxpath/Particle$Occurrence", "optional", "()Lcom/example/fences_for_xpath/fencesforxpath/Particle$Occurrence;"⟩ : MethodName)) hown (mvT hZ (hw _ (List.mem_of_getElem? (i := 7) rfl))) (mvT hZ (hw _ (List.mem_of_getElem? (i := 8) rfl))) (notFace_of_selects (args := #[]) (mvT hZ (hw _ (List.mem_of_getElem? (i := 10) rfl)))) (mvT hZ (hw _ (List.mem_of_getElem? (i := 10) rfl))) (mvT hZ (hw _ (List.mem_of_getElem? (i := 9) rfl))) (by decide) (backOf (W := 0) (rm2 l Z a0 hw [] a_ZERO_OR_MORE a_ONCE a_OPTIONAL a_ONE_OR_MORE a_ZERO_OR_MORE h0 n0 O0 FS) hZ (hw _ (List.mem_of_getElem? (i := 11) rfl)) (hw _ (List.mem_of_getElem? (i := 5) rfl)) (by decide) (by decide)) qa17 qc17 (g := (mkF m 6 #[.val (.int i0), .val (.ref a_ZERO_OR_MORE), .unset] [(.ref a_ZERO_OR_MORE)])) rfl (by rw [hml]; rfl) (Steps.refl _) (argsL := []) (rest := []) (lenOf pd_1 rfl) rfl (by show 2 * 0 + _ ≤ _; exact Nat.le_of_eq rfl) (hb hby at_6) (fun _ _ => ⟨rfl, eh16, (by decide : 0 + 0 ≤ _), (by decide : 0 + 0 ≤ _)⟩)
    dsimp only [Pt.U, Pt.locs, Pt.cells, Pt.slots] at X17 l17 y17 z17 st17 hQ17
    subst l17 y17 z17
    obtain ⟨rfl, Nq17, eh17⟩ := hQ17
    have N17 := Fr.app N16 Nq17
    refine Goes.via (B := T17.setTop (mkF m 9 #[.val (.int i0), .val (.ref a_ZERO_OR_MORE), .unset] [(.ref (own_opt a_ZERO_OR_MORE a_ONCE a_OPTIONAL a_ZERO_OR_MORE a_ONE_OR_MORE))])) st17 ?_
    rw [((by unfold own_opt; rw [if_neg (Ne.symm ne_a_ONCE_a_ZERO_OR_MORE), if_neg (Ne.symm ne_a_ONE_OR_MORE_a_ZERO_OR_MORE)]) : (own_opt a_ZERO_OR_MORE a_ONCE a_OPTIONAL a_ZERO_OR_MORE a_ONE_OR_MORE) = a_ZERO_OR_MORE)]
    refine Goes.step (B := T17.setTop (mkF m 10 #[.val (.int i0), .val (.ref a_ZERO_OR_MORE), .val (.ref a_ZERO_OR_MORE)] [])) (fun _ k => XS.astoreN X17.here hx rfl (hb hby at_9) rfl rfl (l' := #[.val (.int i0), .val (.ref a_ZERO_OR_MORE), .val (.ref a_ZERO_OR_MORE)]) rfl k) ?_
    refine Goes.step (B := T17.setTop (mkF m 11 #[.val (.int i0), .val (.ref a_ZERO_OR_MORE), .val (.ref a_ZERO_OR_MORE)] [(.ref a_ZERO_OR_MORE)])) (fun _ k => XS.aloadN X17.here hx rfl (hb hby at_10) rfl rfl k) ?_
    refine Goes.step (B := T17.setTop (mkF m 16 #[.val (.int i0), .val (.ref a_ZERO_OR_MORE), .val (.ref a_ZERO_OR_MORE)] [])) (fun _ k => XS.ifnonnullYes X17.here hx rfl (pc0 := 11) (pc' := 16) rfl (hb hby at_11) rfl (by decide) (by decide) k) ?_
    refine Goes.step (B := T17.setTop (mkF m 17 #[.val (.int i0), .val (.ref a_ZERO_OR_MORE), .val (.ref a_ZERO_OR_MORE)] [(.ref a_ZERO_OR_MORE)])) (fun _ k => XS.aloadN X17.here hx rfl (hb hby at_16) rfl rfl k) ?_
    obtain ⟨_, _, ⟨T19, L19, k19, n19⟩, -, X19, ⟨Lc19, hQ19, l19, y19, z19⟩, st19⟩ := Jvm.LawKit.callS X17 hx (y := (⟨"com/example/fences_for_xpath/fencesforxpath/OccurrenceOptionalPinLaw", "minOf", "(Lcom/example/fences_for_xpath/fencesforxpath/Particle$Occurrence;)I"⟩ : MethodName)) hown (mvT hZ (hw _ (List.mem_of_getElem? (i := 15) rfl))) (mvT hZ (hw _ (List.mem_of_getElem? (i := 16) rfl))) (mvT hZ (hw _ (List.mem_of_getElem? (i := 2) rfl))) (mvT hZ (hw _ (List.mem_of_getElem? (i := 17) rfl))) (by decide) (backOf (W := 0) (rm3 l Z a0 hw [] a_ZERO_OR_MORE a_ONCE a_OPTIONAL a_ONE_OR_MORE a_ZERO_OR_MORE h0 n0 O0 FS) hZ (hw _ (List.mem_of_getElem? (i := 17) rfl)) (hw _ (List.mem_of_getElem? (i := 2) rfl)) (by decide) (by decide)) (g := (mkF m 17 #[.val (.int i0), .val (.ref a_ZERO_OR_MORE), .val (.ref a_ZERO_OR_MORE)] [(.ref a_ZERO_OR_MORE)])) rfl (by rw [hml]; rfl) (argsL := [(.ref a_ZERO_OR_MORE)]) (rest := []) (lenOf pd_2 rfl) rfl (by show 2 * 0 + _ ≤ _; exact Nat.le_of_eq rfl) (hb hby at_17) (fun _ _ => ⟨rfl, eh17, (by decide : 0 + 0 ≤ _), (by decide : 0 + 0 ≤ _)⟩)
    dsimp only [Pt.U, Pt.locs, Pt.cells, Pt.slots] at X19 l19 y19 z19 st19 hQ19
    subst l19 y19 z19
    obtain ⟨rfl, Nq19, eh19⟩ := hQ19
    have N19 := Fr.app N17 Nq19
    refine Goes.step (B := T19.setTop (mkF m 20 #[.val (.int i0), .val (.ref a_ZERO_OR_MORE), .val (.ref a_ZERO_OR_MORE)] [(.int (own_min a_ZERO_OR_MORE a_ONCE a_ONE_OR_MORE))])) st19 ?_
    rw [((by unfold own_min; rw [if_neg (Ne.symm ne_a_ONCE_a_ZERO_OR_MORE), if_neg (Ne.symm ne_a_ONE_OR_MORE_a_ZERO_OR_MORE)]) : (own_min a_ZERO_OR_MORE a_ONCE a_ONE_OR_MORE) = (0 : Int32))]
    refine Goes.step (B := T19.setTop (mkF m 23 #[.val (.int i0), .val (.ref a_ZERO_OR_MORE), .val (.ref a_ZERO_OR_MORE)] [])) (fun _ k => XS.ifNo X19.here hx rfl (hb hby at_20) rfl ((if0 _ _).trans (teq (by decide)).2) k) ?_
    refine Goes.step (B := T19.setTop (mkF m 24 #[.val (.int i0), .val (.ref a_ZERO_OR_MORE), .val (.ref a_ZERO_OR_MORE)] [(.ref a_ZERO_OR_MORE)])) (fun _ k => XS.aloadN X19.here hx rfl (hb hby at_23) rfl rfl k) ?_
    obtain ⟨_, _, ⟨T20, L20, k20, n20⟩, -, X20, ⟨Lc20, hQ20, l20, y20, z20⟩, st20⟩ := Jvm.LawKit.callS X19 hx (y := (⟨"com/example/fences_for_xpath/fencesforxpath/OccurrenceOptionalPinLaw", "maxOf", "(Lcom/example/fences_for_xpath/fencesforxpath/Particle$Occurrence;)I"⟩ : MethodName)) hown (mvT hZ (hw _ (List.mem_of_getElem? (i := 20) rfl))) (mvT hZ (hw _ (List.mem_of_getElem? (i := 21) rfl))) (mvT hZ (hw _ (List.mem_of_getElem? (i := 2) rfl))) (mvT hZ (hw _ (List.mem_of_getElem? (i := 22) rfl))) (by decide) (backOf (W := 0) (rm4 l Z a0 hw [] a_ZERO_OR_MORE a_ONCE a_OPTIONAL a_ONE_OR_MORE a_ZERO_OR_MORE h0 n0 O0 FS) hZ (hw _ (List.mem_of_getElem? (i := 22) rfl)) (hw _ (List.mem_of_getElem? (i := 2) rfl)) (by decide) (by decide)) (g := (mkF m 24 #[.val (.int i0), .val (.ref a_ZERO_OR_MORE), .val (.ref a_ZERO_OR_MORE)] [(.ref a_ZERO_OR_MORE)])) rfl (by rw [hml]; rfl) (argsL := [(.ref a_ZERO_OR_MORE)]) (rest := []) (lenOf pd_2 rfl) rfl (by show 2 * 0 + _ ≤ _; exact Nat.le_of_eq rfl) (hb hby at_24) (fun _ _ => ⟨rfl, eh19, (by decide : 0 + 0 ≤ _), (by decide : 0 + 0 ≤ _)⟩)
    dsimp only [Pt.U, Pt.locs, Pt.cells, Pt.slots] at X20 l20 y20 z20 st20 hQ20
    subst l20 y20 z20
    obtain ⟨rfl, Nq20, eh20⟩ := hQ20
    have N20 := Fr.app N19 Nq20
    refine Goes.step (B := T20.setTop (mkF m 27 #[.val (.int i0), .val (.ref a_ZERO_OR_MORE), .val (.ref a_ZERO_OR_MORE)] [(.int (own_max a_ZERO_OR_MORE a_ONCE a_OPTIONAL))])) st20 ?_
    rw [((by unfold own_max; rw [if_neg (Ne.symm ne_a_ONCE_a_ZERO_OR_MORE), if_neg (Ne.symm ne_a_OPTIONAL_a_ZERO_OR_MORE)]) : (own_max a_ZERO_OR_MORE a_ONCE a_OPTIONAL) = (2 : Int32))]
    refine Goes.step (B := T20.setTop (mkF m 28 #[.val (.int i0), .val (.ref a_ZERO_OR_MORE), .val (.ref a_ZERO_OR_MORE)] [(.ref a_ZERO_OR_MORE), (.int (2 : Int32))])) (fun _ k => XS.aloadN X20.here hx rfl (hb hby at_27) rfl rfl k) ?_
    obtain ⟨_, _, ⟨T21, L21, k21, n21⟩, -, X21, ⟨Lc21, hQ21, l21, y21, z21⟩, st21⟩ := Jvm.LawKit.callS X20 hx (y := (⟨"com/example/fences_for_xpath/fencesforxpath/OccurrenceOptionalPinLaw", "maxOf", "(Lcom/example/fences_for_xpath/fencesforxpath/Particle$Occurrence;)I"⟩ : MethodName)) hown (mvT hZ (hw _ (List.mem_of_getElem? (i := 20) rfl))) (mvT hZ (hw _ (List.mem_of_getElem? (i := 21) rfl))) (mvT hZ (hw _ (List.mem_of_getElem? (i := 2) rfl))) (mvT hZ (hw _ (List.mem_of_getElem? (i := 22) rfl))) (by decide) (backOf (W := 1) (rm4 l Z a0 hw [] a_ZERO_OR_MORE a_ONCE a_OPTIONAL a_ONE_OR_MORE a_ZERO_OR_MORE h0 n0 O0 FS) hZ (hw _ (List.mem_of_getElem? (i := 22) rfl)) (hw _ (List.mem_of_getElem? (i := 2) rfl)) (by decide) (by decide)) (g := (mkF m 28 #[.val (.int i0), .val (.ref a_ZERO_OR_MORE), .val (.ref a_ZERO_OR_MORE)] [(.ref a_ZERO_OR_MORE), (.int (2 : Int32))])) rfl (by rw [hml]; rfl) (argsL := [(.ref a_ZERO_OR_MORE)]) (rest := [(.int (2 : Int32))]) (lenOf pd_2 rfl) rfl (by show 2 * 0 + _ ≤ _; exact Nat.le_of_eq rfl) (hb hby at_28) (fun _ _ => ⟨rfl, eh20, (by decide : 0 + 0 ≤ _), (by decide : 0 + 0 ≤ _)⟩)
    dsimp only [Pt.U, Pt.locs, Pt.cells, Pt.slots] at X21 l21 y21 z21 st21 hQ21
    subst l21 y21 z21
    obtain ⟨rfl, Nq21, eh21⟩ := hQ21
    have N21 := Fr.app N20 Nq21
    refine Goes.step (B := T21.setTop (mkF m 31 #[.val (.int i0), .val (.ref a_ZERO_OR_MORE), .val (.ref a_ZERO_OR_MORE)] [(.int (own_max a_ZERO_OR_MORE a_ONCE a_OPTIONAL)), (.int (2 : Int32))])) st21 ?_
    rw [((by unfold own_max; rw [if_neg (Ne.symm ne_a_ONCE_a_ZERO_OR_MORE), if_neg (Ne.symm ne_a_OPTIONAL_a_ZERO_OR_MORE)]) : (own_max a_ZERO_OR_MORE a_ONCE a_OPTIONAL) = (2 : Int32))]
    refine Goes.step (B := T21.setTop (mkF m 34 #[.val (.int i0), .val (.ref a_ZERO_OR_MORE), .val (.ref a_ZERO_OR_MORE)] [])) (fun _ k => XS.icmpNo X21.here hx rfl (hb hby at_31) rfl (teq (by decide)).2 k) ?_
    refine Goes.step (B := T21.setTop (mkF m 35 #[.val (.int i0), .val (.ref a_ZERO_OR_MORE), .val (.ref a_ZERO_OR_MORE)] [(.ref a_ZERO_OR_MORE)])) (fun _ k => XS.aloadN X21.here hx rfl (hb hby at_34) rfl rfl k) ?_
    obtain ⟨cq22, kq22, qa22, qb22, qc22⟩ := isOf hZ eh21 f18
    obtain ⟨_, _, ⟨T22, L22, k22, n22⟩, -, X22, ⟨Lc22, hQ22, l22, y22, z22⟩, st22⟩ := X21.virtualBack hx (y := (⟨"com/example/fences_for_xpath/fencesforxpath/Particle$Occurrence", "optional", "()Lcom/example/fences_for_xpath/fencesforxpath/Particle$Occurrence;"⟩ : MethodName)) (z := (⟨"com/example/fences_for_xpath/fencesforxpath/Particle$Occurrence", "optional", "()Lcom/example/fences_for_xpath/fencesforxpath/Particle$Occurrence;"⟩ : MethodName)) hown (mvT hZ (hw _ (List.mem_of_getElem? (i := 7) rfl))) (mvT hZ (hw _ (List.mem_of_getElem? (i := 8) rfl))) (notFace_of_selects (args := #[]) (mvT hZ (hw _ (List.mem_of_getElem? (i := 10) rfl)))) (mvT hZ (hw _ (List.mem_of_getElem? (i := 10) rfl))) (mvT hZ (hw _ (List.mem_of_getElem? (i := 9) rfl))) (by decide) (backOf (W := 0) (rm2 l Z a0 hw [] a_ZERO_OR_MORE a_ONCE a_OPTIONAL a_ONE_OR_MORE a_ZERO_OR_MORE h0 n0 O0 FS) hZ (hw _ (List.mem_of_getElem? (i := 11) rfl)) (hw _ (List.mem_of_getElem? (i := 5) rfl)) (by decide) (by decide)) qa22 qc22 (g := (mkF m 35 #[.val (.int i0), .val (.ref a_ZERO_OR_MORE), .val (.ref a_ZERO_OR_MORE)] [(.ref a_ZERO_OR_MORE)])) rfl (by rw [hml]; rfl) (Steps.refl _) (argsL := []) (rest := []) (lenOf pd_1 rfl) rfl (by show 2 * 0 + _ ≤ _; exact Nat.le_of_eq rfl) (hb hby at_35) (fun _ _ => ⟨rfl, eh21, (by decide : 0 + 0 ≤ _), (by decide : 0 + 0 ≤ _)⟩)
    dsimp only [Pt.U, Pt.locs, Pt.cells, Pt.slots] at X22 l22 y22 z22 st22 hQ22
    subst l22 y22 z22
    obtain ⟨rfl, Nq22, eh22⟩ := hQ22
    have N22 := Fr.app N21 Nq22
    refine Goes.via (B := T22.setTop (mkF m 38 #[.val (.int i0), .val (.ref a_ZERO_OR_MORE), .val (.ref a_ZERO_OR_MORE)] [(.ref (own_opt a_ZERO_OR_MORE a_ONCE a_OPTIONAL a_ZERO_OR_MORE a_ONE_OR_MORE))])) st22 ?_
    rw [((by unfold own_opt; rw [if_neg (Ne.symm ne_a_ONCE_a_ZERO_OR_MORE), if_neg (Ne.symm ne_a_ONE_OR_MORE_a_ZERO_OR_MORE)]) : (own_opt a_ZERO_OR_MORE a_ONCE a_OPTIONAL a_ZERO_OR_MORE a_ONE_OR_MORE) = a_ZERO_OR_MORE)]
    refine Goes.step (B := T22.setTop (mkF m 39 #[.val (.int i0), .val (.ref a_ZERO_OR_MORE), .val (.ref a_ZERO_OR_MORE)] [(.ref a_ZERO_OR_MORE), (.ref a_ZERO_OR_MORE)])) (fun _ k => XS.aloadN X22.here hx rfl (hb hby at_38) rfl rfl k) ?_
    refine Goes.step (B := T22.setTop (mkF m 42 #[.val (.int i0), .val (.ref a_ZERO_OR_MORE), .val (.ref a_ZERO_OR_MORE)] [])) (fun _ k => Jvm.RoadKit.acmp (g := (mkF m 39 #[.val (.int i0), .val (.ref a_ZERO_OR_MORE), .val (.ref a_ZERO_OR_MORE)] [(.ref a_ZERO_OR_MORE), (.ref a_ZERO_OR_MORE)])) X22 hx rfl rfl rfl (pc0 := 39) (pc' := 42) (same := true) rfl (hb hby at_39) rfl (decide_eq_true rfl) (by decide) (by decide) k) ?_
    refine Goes.step (B := T22.setTop (mkF m 43 #[.val (.int i0), .val (.ref a_ZERO_OR_MORE), .val (.ref a_ZERO_OR_MORE)] [(.int (1 : Int32))])) (fun _ k => XS.iconst X22.here hx rfl (hb hby at_42) k) ?_
    refine Goes.step (B := T22.setTop (mkF m 47 #[.val (.int i0), .val (.ref a_ZERO_OR_MORE), .val (.ref a_ZERO_OR_MORE)] [(.int (1 : Int32))])) (fun _ k => XS.goto X22.here hx rfl (pc0 := 43) (pc' := 47) rfl (hb hby at_43) (by decide) (by decide) k) ?_
    exact Goes.retN X22 hx eh22 (t := .boolean) Bd.returns (by simp) hlk (hb hby at_47) (by decide) (by decide) (⟨rfl, N22⟩)
  · refine Goes.step (B := s₁.setTop (mkF m 1 #[.val (.int i0), .unset, .unset] [(.int i0)])) (fun _ k => XS.iloadN X0.here hx rfl (hb hby at_0) rfl k) ?_
    obtain ⟨_, _, ⟨T23, L23, k23, n23⟩, -, X23, ⟨Lc23, hQ23, l23, y23, z23⟩, st23⟩ := Jvm.LawKit.callS X0 hx (y := (⟨"com/example/fences_for_xpath/fencesforxpath/OccurrenceOptionalPinLaw", "pick", "(I)Lcom/example/fences_for_xpath/fencesforxpath/Particle$Occurrence;"⟩ : MethodName)) hown (mvT hZ (hw _ (List.mem_of_getElem? (i := 0) rfl))) (mvT hZ (hw _ (List.mem_of_getElem? (i := 1) rfl))) (mvT hZ (hw _ (List.mem_of_getElem? (i := 2) rfl))) (mvT hZ (hw _ (List.mem_of_getElem? (i := 3) rfl))) (by decide) (backOf (W := 0) (rm1 l Z a0 hw [] i0 a_ONCE a_OPTIONAL a_ONE_OR_MORE a_ZERO_OR_MORE h0 n0 O0 FS) hZ (hw _ (List.mem_of_getElem? (i := 3) rfl)) (hw _ (List.mem_of_getElem? (i := 2) rfl)) (by decide) (by decide)) (g := (mkF m 1 #[.val (.int i0), .unset, .unset] [(.int i0)])) rfl (by rw [hml]; rfl) (argsL := [(.int i0)]) (rest := []) (lenOf pd_0 rfl) rfl (by show 2 * 0 + _ ≤ _; exact Nat.le_of_eq rfl) (hb hby at_1) (fun _ _ => ⟨rfl, e0, (by decide : 0 + 0 ≤ _), (by decide : 0 + 0 ≤ _)⟩)
    dsimp only [Pt.U, Pt.locs, Pt.cells, Pt.slots] at X23 l23 y23 z23 st23 hQ23
    subst l23 y23 z23
    obtain ⟨rfl, Nq23, eh23⟩ := hQ23
    have N23 := Fr.app N0 Nq23
    refine Goes.step (B := T23.setTop (mkF m 4 #[.val (.int i0), .unset, .unset] [(.ref (own_pick (i0 &&& (3 : Int32)) a_ONCE a_OPTIONAL a_ZERO_OR_MORE a_ONE_OR_MORE))])) st23 ?_
    rw [(by rw [← hiv]; rfl : (own_pick (i0 &&& (3 : Int32)) a_ONCE a_OPTIONAL a_ZERO_OR_MORE a_ONE_OR_MORE) = a_ONE_OR_MORE)]
    refine Goes.step (B := T23.setTop (mkF m 5 #[.val (.int i0), .val (.ref a_ONE_OR_MORE), .unset] [])) (fun _ k => XS.astoreN X23.here hx rfl (hb hby at_4) rfl rfl (l' := #[.val (.int i0), .val (.ref a_ONE_OR_MORE), .unset]) rfl k) ?_
    refine Goes.step (B := T23.setTop (mkF m 6 #[.val (.int i0), .val (.ref a_ONE_OR_MORE), .unset] [(.ref a_ONE_OR_MORE)])) (fun _ k => XS.aloadN X23.here hx rfl (hb hby at_5) rfl rfl k) ?_
    have f25 := E_ONE_OR_MORE.ext O0.2
    obtain ⟨cq24, kq24, qa24, qb24, qc24⟩ := isOf hZ eh23 f25
    obtain ⟨_, _, ⟨T24, L24, k24, n24⟩, -, X24, ⟨Lc24, hQ24, l24, y24, z24⟩, st24⟩ := X23.virtualBack hx (y := (⟨"com/example/fences_for_xpath/fencesforxpath/Particle$Occurrence", "optional", "()Lcom/example/fences_for_xpath/fencesforxpath/Particle$Occurrence;"⟩ : MethodName)) (z := (⟨"com/example/fences_for_xpath/fencesforxpath/Particle$Occurrence", "optional", "()Lcom/example/fences_for_xpath/fencesforxpath/Particle$Occurrence;"⟩ : MethodName)) hown (mvT hZ (hw _ (List.mem_of_getElem? (i := 7) rfl))) (mvT hZ (hw _ (List.mem_of_getElem? (i := 8) rfl))) (notFace_of_selects (args := #[]) (mvT hZ (hw _ (List.mem_of_getElem? (i := 10) rfl)))) (mvT hZ (hw _ (List.mem_of_getElem? (i := 10) rfl))) (mvT hZ (hw _ (List.mem_of_getElem? (i := 9) rfl))) (by decide) (backOf (W := 0) (rm2 l Z a0 hw [] a_ONE_OR_MORE a_ONCE a_OPTIONAL a_ONE_OR_MORE a_ZERO_OR_MORE h0 n0 O0 FS) hZ (hw _ (List.mem_of_getElem? (i := 11) rfl)) (hw _ (List.mem_of_getElem? (i := 5) rfl)) (by decide) (by decide)) qa24 qc24 (g := (mkF m 6 #[.val (.int i0), .val (.ref a_ONE_OR_MORE), .unset] [(.ref a_ONE_OR_MORE)])) rfl (by rw [hml]; rfl) (Steps.refl _) (argsL := []) (rest := []) (lenOf pd_1 rfl) rfl (by show 2 * 0 + _ ≤ _; exact Nat.le_of_eq rfl) (hb hby at_6) (fun _ _ => ⟨rfl, eh23, (by decide : 0 + 0 ≤ _), (by decide : 0 + 0 ≤ _)⟩)
    dsimp only [Pt.U, Pt.locs, Pt.cells, Pt.slots] at X24 l24 y24 z24 st24 hQ24
    subst l24 y24 z24
    obtain ⟨rfl, Nq24, eh24⟩ := hQ24
    have N24 := Fr.app N23 Nq24
    refine Goes.via (B := T24.setTop (mkF m 9 #[.val (.int i0), .val (.ref a_ONE_OR_MORE), .unset] [(.ref (own_opt a_ONE_OR_MORE a_ONCE a_OPTIONAL a_ZERO_OR_MORE a_ONE_OR_MORE))])) st24 ?_
    rw [((by unfold own_opt; rw [if_neg (Ne.symm ne_a_ONCE_a_ONE_OR_MORE), if_pos rfl]) : (own_opt a_ONE_OR_MORE a_ONCE a_OPTIONAL a_ZERO_OR_MORE a_ONE_OR_MORE) = a_ZERO_OR_MORE)]
    refine Goes.step (B := T24.setTop (mkF m 10 #[.val (.int i0), .val (.ref a_ONE_OR_MORE), .val (.ref a_ZERO_OR_MORE)] [])) (fun _ k => XS.astoreN X24.here hx rfl (hb hby at_9) rfl rfl (l' := #[.val (.int i0), .val (.ref a_ONE_OR_MORE), .val (.ref a_ZERO_OR_MORE)]) rfl k) ?_
    refine Goes.step (B := T24.setTop (mkF m 11 #[.val (.int i0), .val (.ref a_ONE_OR_MORE), .val (.ref a_ZERO_OR_MORE)] [(.ref a_ZERO_OR_MORE)])) (fun _ k => XS.aloadN X24.here hx rfl (hb hby at_10) rfl rfl k) ?_
    refine Goes.step (B := T24.setTop (mkF m 16 #[.val (.int i0), .val (.ref a_ONE_OR_MORE), .val (.ref a_ZERO_OR_MORE)] [])) (fun _ k => XS.ifnonnullYes X24.here hx rfl (pc0 := 11) (pc' := 16) rfl (hb hby at_11) rfl (by decide) (by decide) k) ?_
    refine Goes.step (B := T24.setTop (mkF m 17 #[.val (.int i0), .val (.ref a_ONE_OR_MORE), .val (.ref a_ZERO_OR_MORE)] [(.ref a_ZERO_OR_MORE)])) (fun _ k => XS.aloadN X24.here hx rfl (hb hby at_16) rfl rfl k) ?_
    obtain ⟨_, _, ⟨T26, L26, k26, n26⟩, -, X26, ⟨Lc26, hQ26, l26, y26, z26⟩, st26⟩ := Jvm.LawKit.callS X24 hx (y := (⟨"com/example/fences_for_xpath/fencesforxpath/OccurrenceOptionalPinLaw", "minOf", "(Lcom/example/fences_for_xpath/fencesforxpath/Particle$Occurrence;)I"⟩ : MethodName)) hown (mvT hZ (hw _ (List.mem_of_getElem? (i := 15) rfl))) (mvT hZ (hw _ (List.mem_of_getElem? (i := 16) rfl))) (mvT hZ (hw _ (List.mem_of_getElem? (i := 2) rfl))) (mvT hZ (hw _ (List.mem_of_getElem? (i := 17) rfl))) (by decide) (backOf (W := 0) (rm3 l Z a0 hw [] a_ZERO_OR_MORE a_ONCE a_OPTIONAL a_ONE_OR_MORE a_ZERO_OR_MORE h0 n0 O0 FS) hZ (hw _ (List.mem_of_getElem? (i := 17) rfl)) (hw _ (List.mem_of_getElem? (i := 2) rfl)) (by decide) (by decide)) (g := (mkF m 17 #[.val (.int i0), .val (.ref a_ONE_OR_MORE), .val (.ref a_ZERO_OR_MORE)] [(.ref a_ZERO_OR_MORE)])) rfl (by rw [hml]; rfl) (argsL := [(.ref a_ZERO_OR_MORE)]) (rest := []) (lenOf pd_2 rfl) rfl (by show 2 * 0 + _ ≤ _; exact Nat.le_of_eq rfl) (hb hby at_17) (fun _ _ => ⟨rfl, eh24, (by decide : 0 + 0 ≤ _), (by decide : 0 + 0 ≤ _)⟩)
    dsimp only [Pt.U, Pt.locs, Pt.cells, Pt.slots] at X26 l26 y26 z26 st26 hQ26
    subst l26 y26 z26
    obtain ⟨rfl, Nq26, eh26⟩ := hQ26
    have N26 := Fr.app N24 Nq26
    refine Goes.step (B := T26.setTop (mkF m 20 #[.val (.int i0), .val (.ref a_ONE_OR_MORE), .val (.ref a_ZERO_OR_MORE)] [(.int (own_min a_ZERO_OR_MORE a_ONCE a_ONE_OR_MORE))])) st26 ?_
    rw [((by unfold own_min; rw [if_neg (Ne.symm ne_a_ONCE_a_ZERO_OR_MORE), if_neg (Ne.symm ne_a_ONE_OR_MORE_a_ZERO_OR_MORE)]) : (own_min a_ZERO_OR_MORE a_ONCE a_ONE_OR_MORE) = (0 : Int32))]
    refine Goes.step (B := T26.setTop (mkF m 23 #[.val (.int i0), .val (.ref a_ONE_OR_MORE), .val (.ref a_ZERO_OR_MORE)] [])) (fun _ k => XS.ifNo X26.here hx rfl (hb hby at_20) rfl ((if0 _ _).trans (teq (by decide)).2) k) ?_
    refine Goes.step (B := T26.setTop (mkF m 24 #[.val (.int i0), .val (.ref a_ONE_OR_MORE), .val (.ref a_ZERO_OR_MORE)] [(.ref a_ZERO_OR_MORE)])) (fun _ k => XS.aloadN X26.here hx rfl (hb hby at_23) rfl rfl k) ?_
    obtain ⟨_, _, ⟨T27, L27, k27, n27⟩, -, X27, ⟨Lc27, hQ27, l27, y27, z27⟩, st27⟩ := Jvm.LawKit.callS X26 hx (y := (⟨"com/example/fences_for_xpath/fencesforxpath/OccurrenceOptionalPinLaw", "maxOf", "(Lcom/example/fences_for_xpath/fencesforxpath/Particle$Occurrence;)I"⟩ : MethodName)) hown (mvT hZ (hw _ (List.mem_of_getElem? (i := 20) rfl))) (mvT hZ (hw _ (List.mem_of_getElem? (i := 21) rfl))) (mvT hZ (hw _ (List.mem_of_getElem? (i := 2) rfl))) (mvT hZ (hw _ (List.mem_of_getElem? (i := 22) rfl))) (by decide) (backOf (W := 0) (rm4 l Z a0 hw [] a_ZERO_OR_MORE a_ONCE a_OPTIONAL a_ONE_OR_MORE a_ZERO_OR_MORE h0 n0 O0 FS) hZ (hw _ (List.mem_of_getElem? (i := 22) rfl)) (hw _ (List.mem_of_getElem? (i := 2) rfl)) (by decide) (by decide)) (g := (mkF m 24 #[.val (.int i0), .val (.ref a_ONE_OR_MORE), .val (.ref a_ZERO_OR_MORE)] [(.ref a_ZERO_OR_MORE)])) rfl (by rw [hml]; rfl) (argsL := [(.ref a_ZERO_OR_MORE)]) (rest := []) (lenOf pd_2 rfl) rfl (by show 2 * 0 + _ ≤ _; exact Nat.le_of_eq rfl) (hb hby at_24) (fun _ _ => ⟨rfl, eh26, (by decide : 0 + 0 ≤ _), (by decide : 0 + 0 ≤ _)⟩)
    dsimp only [Pt.U, Pt.locs, Pt.cells, Pt.slots] at X27 l27 y27 z27 st27 hQ27
    subst l27 y27 z27
    obtain ⟨rfl, Nq27, eh27⟩ := hQ27
    have N27 := Fr.app N26 Nq27
    refine Goes.step (B := T27.setTop (mkF m 27 #[.val (.int i0), .val (.ref a_ONE_OR_MORE), .val (.ref a_ZERO_OR_MORE)] [(.int (own_max a_ZERO_OR_MORE a_ONCE a_OPTIONAL))])) st27 ?_
    rw [((by unfold own_max; rw [if_neg (Ne.symm ne_a_ONCE_a_ZERO_OR_MORE), if_neg (Ne.symm ne_a_OPTIONAL_a_ZERO_OR_MORE)]) : (own_max a_ZERO_OR_MORE a_ONCE a_OPTIONAL) = (2 : Int32))]
    refine Goes.step (B := T27.setTop (mkF m 28 #[.val (.int i0), .val (.ref a_ONE_OR_MORE), .val (.ref a_ZERO_OR_MORE)] [(.ref a_ONE_OR_MORE), (.int (2 : Int32))])) (fun _ k => XS.aloadN X27.here hx rfl (hb hby at_27) rfl rfl k) ?_
    obtain ⟨_, _, ⟨T28, L28, k28, n28⟩, -, X28, ⟨Lc28, hQ28, l28, y28, z28⟩, st28⟩ := Jvm.LawKit.callS X27 hx (y := (⟨"com/example/fences_for_xpath/fencesforxpath/OccurrenceOptionalPinLaw", "maxOf", "(Lcom/example/fences_for_xpath/fencesforxpath/Particle$Occurrence;)I"⟩ : MethodName)) hown (mvT hZ (hw _ (List.mem_of_getElem? (i := 20) rfl))) (mvT hZ (hw _ (List.mem_of_getElem? (i := 21) rfl))) (mvT hZ (hw _ (List.mem_of_getElem? (i := 2) rfl))) (mvT hZ (hw _ (List.mem_of_getElem? (i := 22) rfl))) (by decide) (backOf (W := 1) (rm4 l Z a0 hw [] a_ONE_OR_MORE a_ONCE a_OPTIONAL a_ONE_OR_MORE a_ZERO_OR_MORE h0 n0 O0 FS) hZ (hw _ (List.mem_of_getElem? (i := 22) rfl)) (hw _ (List.mem_of_getElem? (i := 2) rfl)) (by decide) (by decide)) (g := (mkF m 28 #[.val (.int i0), .val (.ref a_ONE_OR_MORE), .val (.ref a_ZERO_OR_MORE)] [(.ref a_ONE_OR_MORE), (.int (2 : Int32))])) rfl (by rw [hml]; rfl) (argsL := [(.ref a_ONE_OR_MORE)]) (rest := [(.int (2 : Int32))]) (lenOf pd_2 rfl) rfl (by show 2 * 0 + _ ≤ _; exact Nat.le_of_eq rfl) (hb hby at_28) (fun _ _ => ⟨rfl, eh27, (by decide : 0 + 0 ≤ _), (by decide : 0 + 0 ≤ _)⟩)
    dsimp only [Pt.U, Pt.locs, Pt.cells, Pt.slots] at X28 l28 y28 z28 st28 hQ28
    subst l28 y28 z28
    obtain ⟨rfl, Nq28, eh28⟩ := hQ28
    have N28 := Fr.app N27 Nq28
    refine Goes.step (B := T28.setTop (mkF m 31 #[.val (.int i0), .val (.ref a_ONE_OR_MORE), .val (.ref a_ZERO_OR_MORE)] [(.int (own_max a_ONE_OR_MORE a_ONCE a_OPTIONAL)), (.int (2 : Int32))])) st28 ?_
    rw [((by unfold own_max; rw [if_neg (Ne.symm ne_a_ONCE_a_ONE_OR_MORE), if_neg (Ne.symm ne_a_OPTIONAL_a_ONE_OR_MORE)]) : (own_max a_ONE_OR_MORE a_ONCE a_OPTIONAL) = (2 : Int32))]
    refine Goes.step (B := T28.setTop (mkF m 34 #[.val (.int i0), .val (.ref a_ONE_OR_MORE), .val (.ref a_ZERO_OR_MORE)] [])) (fun _ k => XS.icmpNo X28.here hx rfl (hb hby at_31) rfl (teq (by decide)).2 k) ?_
    refine Goes.step (B := T28.setTop (mkF m 35 #[.val (.int i0), .val (.ref a_ONE_OR_MORE), .val (.ref a_ZERO_OR_MORE)] [(.ref a_ZERO_OR_MORE)])) (fun _ k => XS.aloadN X28.here hx rfl (hb hby at_34) rfl rfl k) ?_
    have f30 := E_ZERO_OR_MORE.ext O0.2
    obtain ⟨cq29, kq29, qa29, qb29, qc29⟩ := isOf hZ eh28 f30
    obtain ⟨_, _, ⟨T29, L29, k29, n29⟩, -, X29, ⟨Lc29, hQ29, l29, y29, z29⟩, st29⟩ := X28.virtualBack hx (y := (⟨"com/example/fences_for_xpath/fencesforxpath/Particle$Occurrence", "optional", "()Lcom/example/fences_for_xpath/fencesforxpath/Particle$Occurrence;"⟩ : MethodName)) (z := (⟨"com/example/fences_for_xpath/fencesforxpath/Particle$Occurrence", "optional", "()Lcom/example/fences_for_xpath/fencesforxpath/Particle$Occurrence;"⟩ : MethodName)) hown (mvT hZ (hw _ (List.mem_of_getElem? (i := 7) rfl))) (mvT hZ (hw _ (List.mem_of_getElem? (i := 8) rfl))) (notFace_of_selects (args := #[]) (mvT hZ (hw _ (List.mem_of_getElem? (i := 10) rfl)))) (mvT hZ (hw _ (List.mem_of_getElem? (i := 10) rfl))) (mvT hZ (hw _ (List.mem_of_getElem? (i := 9) rfl))) (by decide) (backOf (W := 0) (rm2 l Z a0 hw [] a_ZERO_OR_MORE a_ONCE a_OPTIONAL a_ONE_OR_MORE a_ZERO_OR_MORE h0 n0 O0 FS) hZ (hw _ (List.mem_of_getElem? (i := 11) rfl)) (hw _ (List.mem_of_getElem? (i := 5) rfl)) (by decide) (by decide)) qa29 qc29 (g := (mkF m 35 #[.val (.int i0), .val (.ref a_ONE_OR_MORE), .val (.ref a_ZERO_OR_MORE)] [(.ref a_ZERO_OR_MORE)])) rfl (by rw [hml]; rfl) (Steps.refl _) (argsL := []) (rest := []) (lenOf pd_1 rfl) rfl (by show 2 * 0 + _ ≤ _; exact Nat.le_of_eq rfl) (hb hby at_35) (fun _ _ => ⟨rfl, eh28, (by decide : 0 + 0 ≤ _), (by decide : 0 + 0 ≤ _)⟩)
    dsimp only [Pt.U, Pt.locs, Pt.cells, Pt.slots] at X29 l29 y29 z29 st29 hQ29
    subst l29 y29 z29
    obtain ⟨rfl, Nq29, eh29⟩ := hQ29
    have N29 := Fr.app N28 Nq29
    refine Goes.via (B := T29.setTop (mkF m 38 #[.val (.int i0), .val (.ref a_ONE_OR_MORE), .val (.ref a_ZERO_OR_MORE)] [(.ref (own_opt a_ZERO_OR_MORE a_ONCE a_OPTIONAL a_ZERO_OR_MORE a_ONE_OR_MORE))])) st29 ?_
    rw [((by unfold own_opt; rw [if_neg (Ne.symm ne_a_ONCE_a_ZERO_OR_MORE), if_neg (Ne.symm ne_a_ONE_OR_MORE_a_ZERO_OR_MORE)]) : (own_opt a_ZERO_OR_MORE a_ONCE a_OPTIONAL a_ZERO_OR_MORE a_ONE_OR_MORE) = a_ZERO_OR_MORE)]
    refine Goes.step (B := T29.setTop (mkF m 39 #[.val (.int i0), .val (.ref a_ONE_OR_MORE), .val (.ref a_ZERO_OR_MORE)] [(.ref a_ZERO_OR_MORE), (.ref a_ZERO_OR_MORE)])) (fun _ k => XS.aloadN X29.here hx rfl (hb hby at_38) rfl rfl k) ?_
    refine Goes.step (B := T29.setTop (mkF m 42 #[.val (.int i0), .val (.ref a_ONE_OR_MORE), .val (.ref a_ZERO_OR_MORE)] [])) (fun _ k => Jvm.RoadKit.acmp (g := (mkF m 39 #[.val (.int i0), .val (.ref a_ONE_OR_MORE), .val (.ref a_ZERO_OR_MORE)] [(.ref a_ZERO_OR_MORE), (.ref a_ZERO_OR_MORE)])) X29 hx rfl rfl rfl (pc0 := 39) (pc' := 42) (same := true) rfl (hb hby at_39) rfl (decide_eq_true rfl) (by decide) (by decide) k) ?_
    refine Goes.step (B := T29.setTop (mkF m 43 #[.val (.int i0), .val (.ref a_ONE_OR_MORE), .val (.ref a_ZERO_OR_MORE)] [(.int (1 : Int32))])) (fun _ k => XS.iconst X29.here hx rfl (hb hby at_42) k) ?_
    refine Goes.step (B := T29.setTop (mkF m 47 #[.val (.int i0), .val (.ref a_ONE_OR_MORE), .val (.ref a_ZERO_OR_MORE)] [(.int (1 : Int32))])) (fun _ k => XS.goto X29.here hx rfl (pc0 := 43) (pc' := 47) rfl (hb hby at_43) (by decide) (by decide) k) ?_
    exact Goes.retN X29 hx eh29 (t := .boolean) Bd.returns (by simp) hlk (hb hby at_47) (by decide) (by decide) (⟨rfl, N29⟩)
set_option maxRecDepth 65536 in
set_option maxHeartbeats 40000000 in
theorem comes_1 {Post : Tables → Env → Array Value → State → Outcome → State → Prop} (hpost : ∀ tb e args s v u, (limb_1_1.after args s (.returned v) u = true ∧ limb_1_2.after args s (.returned v) u = true ∧ True) → FrameEnd s (.returned v) u (Jvm.fieldLocs frame_1_writes args s ++ Jvm.arrayLocs frame_1_arrays args s ++ Jvm.staticLocs frame_1_statics s) 0 0 → Post tb e args s (.returned v) u) :
    ArmFor flags0 classFile x code maxLocals ret World_1 tables_1 room_1 Calls_1 rest_1 Pre_1 Post := by
  intro l hfl _ _ p e ha hc hk s m args below hf hA hF happ hP
  obtain ⟨hcalls, hrest, hpre⟩ := hP
  obtain ⟨-, -, -, hnamed, -, -, -, hat⟩ := (Spec.applies_iff hf).mp happ
  obtain ⟨hg, hn⟩ := and_e (Cond.before_iff.mp (show (Jvm.Cond.and given_1 narrow_1).before args s = true from hpre))
  obtain ⟨hcount, hg⟩ := and_e hg
  obtain ⟨w0, rfl⟩ : ∃ w0 : Value, args = #[w0] := by
    have hs : args.size = 1 := by simpa [Cond.value, given_1] using hcount
    obtain ⟨L⟩ := args
    match L, hs with
    | [w0], _ => exact ⟨w0, rfl⟩
  have hw := fun d (hd : d ∈ tables_1) => atoms_spec (ws := Jvm.Cond.code x code maxLocals ret :: tables_1) hat d (List.mem_cons_of_mem _ hd)
  have hfit : Fit s := fun {y c} hc i hi => by
    obtain ⟨ha, rfl⟩ := Array.getElem?_eq_some_iff.mp hc
    have q := List.all_eq_true.mp ((Array.all_eq_true_iff_forall_mem.mp hF) _ (Array.getElem_mem ha)) i (List.mem_range.mpr hi)
    simpa [Array.getElem?_eq_getElem hi] using q
  obtain ⟨i0, ei0⟩ := is_v hg
  obtain rfl : w0 = (.int i0) := Option.some.inj ei0
  obtain ⟨hn0, hr0⟩ := and_e hn
  obtain ⟨hn1, hr1⟩ := and_e hr0
  obtain ⟨hn2, hr2⟩ := and_e hr1
  obtain ⟨hn3, hr3⟩ := and_e hr2
  obtain ⟨hn4, hr4⟩ := and_e hr3
  obtain ⟨hn5, hr5⟩ := and_e hr4
  obtain ⟨hn6, hr6⟩ := and_e hr5
  obtain ⟨a_ONCE, ev_ONCE⟩ := exa_v hn0
  have S_ONCE := Sta.start ev_ONCE (Or.inr ⟨(hw _ (List.mem_of_getElem? (i := 5) rfl)), (hw _ (List.mem_of_getElem? (i := 6) rfl))⟩)
  have E_ONCE := Exa.start ev_ONCE hn0
  obtain ⟨a_OPTIONAL, ev_OPTIONAL⟩ := exa_v hn1
  have S_OPTIONAL := Sta.start ev_OPTIONAL (Or.inr ⟨(hw _ (List.mem_of_getElem? (i := 5) rfl)), (hw _ (List.mem_of_getElem? (i := 14) rfl))⟩)
  have E_OPTIONAL := Exa.start ev_OPTIONAL hn1
  have F_OPTIONAL_ordinal : Fld s s.heap a_OPTIONAL "java/lang/Enum" "ordinal" "I" (.int (1 : Int32)) := Fld.start ((fld_at ev_OPTIONAL).symm.trans (own_eqI hn2))
  have F_ONCE_ordinal : Fld s s.heap a_ONCE "java/lang/Enum" "ordinal" "I" (.int (0 : Int32)) := Fld.start ((fld_at ev_ONCE).symm.trans (own_eqI hn3))
  obtain ⟨a_ONE_OR_MORE, ev_ONE_OR_MORE⟩ := exa_v hn4
  have S_ONE_OR_MORE := Sta.start ev_ONE_OR_MORE (Or.inr ⟨(hw _ (List.mem_of_getElem? (i := 5) rfl)), (hw _ (List.mem_of_getElem? (i := 19) rfl))⟩)
  have E_ONE_OR_MORE := Exa.start ev_ONE_OR_MORE hn4
  have F_ONE_OR_MORE_ordinal : Fld s s.heap a_ONE_OR_MORE "java/lang/Enum" "ordinal" "I" (.int (3 : Int32)) := Fld.start ((fld_at ev_ONE_OR_MORE).symm.trans (own_eqI hn5))
  obtain ⟨a_ZERO_OR_MORE, ev_ZERO_OR_MORE⟩ := exa_v hn6
  have S_ZERO_OR_MORE := Sta.start ev_ZERO_OR_MORE (Or.inr ⟨(hw _ (List.mem_of_getElem? (i := 5) rfl)), (hw _ (List.mem_of_getElem? (i := 26) rfl))⟩)
  have E_ZERO_OR_MORE := Exa.start ev_ZERO_OR_MORE hn6
  have F_ZERO_OR_MORE_ordinal : Fld s s.heap a_ZERO_OR_MORE "java/lang/Enum" "ordinal" "I" (.int (2 : Int32)) := Fld.start ((fld_at ev_ZERO_OR_MORE).symm.trans (own_eqI hr6))
  have FS : OwnSt s a_ONCE a_OPTIONAL a_ONE_OR_MORE a_ZERO_OR_MORE := ⟨S_ONCE, E_ONCE, S_OPTIONAL, E_OPTIONAL, F_OPTIONAL_ordinal, F_ONCE_ordinal, S_ONE_OR_MORE, E_ONE_OR_MORE, F_ONE_OR_MORE_ordinal, S_ZERO_OR_MORE, E_ZERO_OR_MORE, F_ZERO_OR_MORE_ordinal⟩
  obtain ⟨n, o, h1, h2, h3, _, L, rfl, ⟨rfl, N⟩, hq⟩ := rm0 l s _ hw tables_1 i0 a_ONCE a_OPTIONAL a_ONE_OR_MORE a_ZERO_OR_MORE s.heap s.heap.size (Old.start s) FS p e ha hc hk s m _ below hf ((Spec.applies_iff_loose hf).mp happ).1 ⟨rfl, State.Warmed39.refl s, rfl⟩ trivial
  refine ⟨n, _, h1, h2, h3, hpost _ _ _ _ _ _ ⟨Cond.after_iff.mpr rfl, Cond.after_iff.mpr (eq_i res_at (Term.int_eval (1)) rfl), trivial⟩ ⟨hq.1, hq.2.1, (hq.2.2.sift fun y hy => Or.inr (N y hy)).mono (by decide) (by decide)⟩⟩
theorem main_1_1 : Claimed_1_1 := comes_1 fun _ _ _ _ _ _ h hF => ⟨h.1, hF⟩
theorem main_1_2 : Claimed_1_2 := comes_1 fun _ _ _ _ _ _ h hF => ⟨h.2.1, hF⟩
end Jvm.Pilot.@@N@@
namespace Jvm.Pilot.@@N@@
open Jvm Jvm.ClassFile Sem Op Lib Jvm.Free Jvm.Stand Jvm.Pilot.@@N@@.Jvm.D
/-! MADE BY PROGRAM (witnessworld.py) out of the Statement's table words and the real class files: 12 classes; the members and pool entries that the words name. The judged class is class 1, her method 1. -/
namespace start1
open Jvm.ClassFile
def u (s : String) : CpInfo := .utf8 (stringToUtf16 s)
/-- a pool by its gaps: so many unusable entries, then the entry; so many at the end -/
def gap : Nat → List CpInfo → List CpInfo
  | 0, r => r
  | n + 1, r => .unusable :: gap n r
def poolList (es : List (Nat × CpInfo)) (last : Nat) : List CpInfo := es.foldr (fun e r => gap e.1 (e.2 :: r)) (gap last [])
def pool (es : List (Nat × CpInfo)) (last : Nat) : Array CpInfo := ⟨poolList es last⟩
def fileOf (pool : Array CpInfo) (this : Nat) (attrs : Array Attribute := #[]) (ms : Array MethodInfo := #[]) (fl : Nat := 33) (sup : Nat := 0) (ifs : Array Nat := #[]) (fds : Array FieldInfo := #[]) : ClassFile where
  minorVersion := 0
  majorVersion := 65
  constantPool := pool
  accessFlags := fl
  thisClass := this
  superClass := sup
  interfaces := ifs
  fields := fds
  methods := ms
  attributes := attrs
def plain (name : String) (sup : Option ClassId) : Class where
  name := name
  kind := .ordinary
  loader := none
  accessFlags := 33
  super := sup
  interfaces := #[]
  cf := none
  fields := #[]
  methods := #[]
  instanceTypes := #[]
  staticTypes := #[]
  resolved := #[]
  callSites := []
  init := .initialized
  statics := none
  mirror := none

def pool0 : Array CpInfo := pool [(5, u "<init>"), (0, u "()V"), (1, .class_ 10), (1, u "java/lang/Object")] 113

def k0m0 : Method := { name := "<init>", desc := "()V", sig := { parameters := [], returnType := none }, accessFlags := 1, code := none }
/-- java/lang/Object -/
def k0 : Class := { plain "java/lang/Object" none with
  accessFlags := 33
  interfaces := #[]
  cf := some (fileOf pool0 8 #[] #[{ accessFlags := 1, nameIndex := 5, descriptorIndex := 6, attributes := #[] }] 33 0 #[] #[])
  fields := #[]
  methods := #[k0m0]
  instanceTypes := #[]
  staticTypes := #[]
  resolved := Array.replicate 124 none
  statics := none }

def pool1 : Array CpInfo := pool [(2, .class_ 4), (1, u "java/lang/Object"), (0, u "<init>"), (0, u "()V"), (0, .methodref 8 9), (0, .class_ 10), (0, .nameAndType 11 12), (0, u "com/example/fences_for_xpath/fencesforxpath/OccurrenceOptionalPinLaw"), (0, u "pick"), (0, u "(I)Lcom/example/fences_for_xpath/fencesforxpath/Particle$Occurrence;"), (0, .methodref 14 15), (0, .class_ 16), (0, .nameAndType 17 18), (0, u "com/example/fences_for_xpath/fencesforxpath/Particle$Occurrence"), (0, u "optional"), (0, u "()Lcom/example/fences_for_xpath/fencesforxpath/Particle$Occurrence;"), (0, .methodref 8 20), (0, .nameAndType 21 22), (0, u "minOf"), (0, u "(Lcom/example/fences_for_xpath/fencesforxpath/Particle$Occurrence;)I"), (0, .methodref 8 24), (0, .nameAndType 25 22), (0, u "maxOf"), (0, .fieldref 14 27), (0, .nameAndType 28 29), (0, u "ONCE"), (0, u "Lcom/example/fences_for_xpath/fencesforxpath/Particle$Occurrence;"), (0, .fieldref 14 31), (0, .nameAndType 32 29), (0, u "OPTIONAL"), (0, .fieldref 14 34), (0, .nameAndType 35 29), (0, u "ZERO_OR_MORE"), (0, .fieldref 14 37), (0, .nameAndType 38 29), (0, u "ONE_OR_MORE"), (2, u "law"), (0, u "(I)Z")] 7

def k1m0 : Method := { name := "<init>", desc := "()V", sig := { parameters := [], returnType := none }, accessFlags := 1, code := none }
def k1c1 : Code := { maxStack := 2, maxLocals := 3, code := code, exceptionTable := #[], attributes := #[] }
def k1m1 : Method := { name := "law", desc := "(I)Z", sig := { parameters := [.int], returnType := some .boolean }, accessFlags := 9, code := some k1c1 }
def k1c2 : Code := { maxStack := 2, maxLocals := 2, code := method_3_code, exceptionTable := #[], attributes := #[] }
def k1m2 : Method := { name := "pick", desc := "(I)Lcom/example/fences_for_xpath/fencesforxpath/Particle$Occurrence;", sig := { parameters := [.int], returnType := some (.object "com/example/fences_for_xpath/fencesforxpath/Particle$Occurrence") }, accessFlags := 10, code := some k1c2 }
def k1c3 : Code := { maxStack := 2, maxLocals := 1, code := method_4_code, exceptionTable := #[], attributes := #[] }
def k1m3 : Method := { name := "minOf", desc := "(Lcom/example/fences_for_xpath/fencesforxpath/Particle$Occurrence;)I", sig := { parameters := [(.object "com/example/fences_for_xpath/fencesforxpath/Particle$Occurrence")], returnType := some .int }, accessFlags := 10, code := some k1c3 }
def k1c4 : Code := { maxStack := 2, maxLocals := 1, code := method_5_code, exceptionTable := #[], attributes := #[] }
def k1m4 : Method := { name := "maxOf", desc := "(Lcom/example/fences_for_xpath/fencesforxpath/Particle$Occurrence;)I", sig := { parameters := [(.object "com/example/fences_for_xpath/fencesforxpath/Particle$Occurrence")], returnType := some .int }, accessFlags := 10, code := some k1c4 }
/-- com/example/fences_for_xpath/fencesforxpath/OccurrenceOptionalPinLaw -/
def k1 : Class := { plain "com/example/fences_for_xpath/fencesforxpath/OccurrenceOptionalPinLaw" (some 0) with
  accessFlags := 49
  interfaces := #[]
  cf := some (fileOf pool1 8 #[] #[{ accessFlags := 1, nameIndex := 5, descriptorIndex := 6, attributes := #[] }, { accessFlags := 9, nameIndex := 41, descriptorIndex := 42, attributes := #[] }, { accessFlags := 10, nameIndex := 11, descriptorIndex := 12, attributes := #[] }, { accessFlags := 10, nameIndex := 21, descriptorIndex := 22, attributes := #[] }, { accessFlags := 10, nameIndex := 25, descriptorIndex := 22, attributes := #[] }] 49 2 #[] #[])
  fields := #[]
  methods := #[k1m0, k1m1, k1m2, k1m3, k1m4]
  instanceTypes := #[]
  staticTypes := #[]
  resolved := Array.replicate 50 none
  statics := none }

def pool2 : Array CpInfo := pool [(1, .class_ 2), (0, u "java/lang/constant/Constable"), (0, .class_ 4), (0, u "java/lang/Object")] 6

/-- java/lang/constant/Constable -/
def k2 : Class := { plain "java/lang/constant/Constable" (some 0) with
  accessFlags := 1537
  interfaces := #[]
  cf := some (fileOf pool2 1 #[] #[] 1537 3 #[] #[])
  fields := #[]
  methods := #[]
  instanceTypes := #[]
  staticTypes := #[]
  resolved := Array.replicate 11 none
  statics := none }

def pool3 : Array CpInfo := pool [(1, .class_ 2), (0, u "java/lang/Comparable"), (0, .class_ 4), (0, u "java/lang/Object")] 7

/-- java/lang/Comparable -/
def k3 : Class := { plain "java/lang/Comparable" (some 0) with
  accessFlags := 1537
  interfaces := #[]
  cf := some (fileOf pool3 1 #[] #[] 1537 3 #[] #[])
  fields := #[]
  methods := #[]
  instanceTypes := #[]
  staticTypes := #[]
  resolved := Array.replicate 12 none
  statics := none }

def pool4 : Array CpInfo := pool [(1, .class_ 2), (0, u "java/io/Serializable"), (0, .class_ 4), (0, u "java/lang/Object")] 2

/-- java/io/Serializable -/
def k4 : Class := { plain "java/io/Serializable" (some 0) with
  accessFlags := 1537
  interfaces := #[]
  cf := some (fileOf pool4 1 #[] #[] 1537 3 #[] #[])
  fields := #[]
  methods := #[]
  instanceTypes := #[]
  staticTypes := #[]
  resolved := Array.replicate 7 none
  statics := none }

def pool5 : Array CpInfo := pool [(2, .class_ 4), (1, u "java/lang/Enum"), (0, u "name"), (0, u "Ljava/lang/String;"), (2, u "ordinal"), (0, u "I"), (1, .class_ 14), (1, u "java/lang/Object"), (4, u "hash"), (86, .class_ 108), (1, u "java/lang/Enum$EnumDesc"), (2, .class_ 112), (0, u "java/lang/constant/Constable"), (0, .class_ 114), (0, u "java/lang/Comparable"), (0, .class_ 116), (0, u "java/io/Serializable")] 87

/-- java/lang/Enum -/
def k5 : Class := { plain "java/lang/Enum" (some 0) with
  accessFlags := 1057
  interfaces := #[2, 3, 4]
  cf := some (fileOf pool5 2 #[.nestMembers #[106]] #[] 1057 12 #[111, 113, 115] #[{ accessFlags := 18, nameIndex := 5, descriptorIndex := 6, attributes := #[] }, { accessFlags := 18, nameIndex := 9, descriptorIndex := 10, attributes := #[] }, { accessFlags := 2, nameIndex := 19, descriptorIndex := 10, attributes := #[] }])
  fields := #[{ name := "name", type := (.object "java/lang/String"), accessFlags := 18, slot := 0, constantValue := 0 }, { name := "ordinal", type := .int, accessFlags := 18, slot := 1, constantValue := 0 }, { name := "hash", type := .int, accessFlags := 2, slot := 2, constantValue := 0 }]
  methods := #[]
  instanceTypes := #[(.object "java/lang/String"), .int, .int]
  staticTypes := #[]
  resolved := Array.replicate 204 none
  statics := none }

def pool6 : Array CpInfo := pool [(1, .class_ 2), (0, u "com/example/fences_for_xpath/fencesforxpath/Particle$Occurrence"), (0, .fieldref 1 4), (0, .nameAndType 5 6), (0, u "ONCE"), (0, u "Lcom/example/fences_for_xpath/fencesforxpath/Particle$Occurrence;"), (0, .fieldref 1 8), (0, .nameAndType 9 6), (0, u "OPTIONAL"), (0, .fieldref 1 11), (0, .nameAndType 12 6), (0, u "ZERO_OR_MORE"), (0, .fieldref 1 14), (0, .nameAndType 15 6), (0, u "ONE_OR_MORE"), (2, u "$VALUES"), (0, u "[Lcom/example/fences_for_xpath/fencesforxpath/Particle$Occurrence;"), (6, .class_ 28), (1, u "java/lang/Enum"), (8, u "indicator"), (0, u "Ljava/lang/String;"), (2, u "optional"), (0, u "()Lcom/example/fences_for_xpath/fencesforxpath/Particle$Occurrence;"), (37, .class_ 81), (0, u "com/example/fences_for_xpath/fencesforxpath/Particle")] 2

def k6c0 : Code := { maxStack := 2, maxLocals := 2, code := prog_19_method_4_code, exceptionTable := #[], attributes := #[] }
def k6m0 : Method := { name := "optional", desc := "()Lcom/example/fences_for_xpath/fencesforxpath/Particle$Occurrence;", sig := { parameters := [], returnType := some (.object "com/example/fences_for_xpath/fencesforxpath/Particle$Occurrence") }, accessFlags := 1, code := some k6c0 }
/-- com/example/fences_for_xpath/fencesforxpath/Particle$Occurrence -/
def k6 : Class := { plain "com/example/fences_for_xpath/fencesforxpath/Particle$Occurrence" (some 5) with
  accessFlags := 16433
  interfaces := #[]
  cf := some (fileOf pool6 1 #[.nestHost 80] #[{ accessFlags := 1, nameIndex := 41, descriptorIndex := 42, attributes := #[] }] 16433 26 #[] #[{ accessFlags := 16409, nameIndex := 5, descriptorIndex := 6, attributes := #[] }, { accessFlags := 16409, nameIndex := 9, descriptorIndex := 6, attributes := #[] }, { accessFlags := 16409, nameIndex := 12, descriptorIndex := 6, attributes := #[] }, { accessFlags := 16409, nameIndex := 15, descriptorIndex := 6, attributes := #[] }, { accessFlags := 18, nameIndex := 37, descriptorIndex := 38, attributes := #[] }, { accessFlags := 4122, nameIndex := 18, descriptorIndex := 19, attributes := #[] }])
  fields := #[{ name := "ONCE", type := (.object "com/example/fences_for_xpath/fencesforxpath/Particle$Occurrence"), accessFlags := 16409, slot := 0, constantValue := 0 }, { name := "OPTIONAL", type := (.object "com/example/fences_for_xpath/fencesforxpath/Particle$Occurrence"), accessFlags := 16409, slot := 1, constantValue := 0 }, { name := "ZERO_OR_MORE", type := (.object "com/example/fences_for_xpath/fencesforxpath/Particle$Occurrence"), accessFlags := 16409, slot := 2, constantValue := 0 }, { name := "ONE_OR_MORE", type := (.object "com/example/fences_for_xpath/fencesforxpath/Particle$Occurrence"), accessFlags := 16409, slot := 3, constantValue := 0 }, { name := "indicator", type := (.object "java/lang/String"), accessFlags := 18, slot := 3, constantValue := 0 }, { name := "$VALUES", type := (.array (.object "com/example/fences_for_xpath/fencesforxpath/Particle$Occurrence")), accessFlags := 4122, slot := 4, constantValue := 0 }]
  methods := #[k6m0]
  instanceTypes := #[(.object "java/lang/String"), .int, .int, (.object "java/lang/String")]
  staticTypes := #[(.object "com/example/fences_for_xpath/fencesforxpath/Particle$Occurrence"), (.object "com/example/fences_for_xpath/fencesforxpath/Particle$Occurrence"), (.object "com/example/fences_for_xpath/fencesforxpath/Particle$Occurrence"), (.object "com/example/fences_for_xpath/fencesforxpath/Particle$Occurrence"), (.array (.object "com/example/fences_for_xpath/fencesforxpath/Particle$Occurrence"))]
  resolved := Array.replicate 84 none
  statics := some 0 }

def pool7 : Array CpInfo := pool [(1, u "java/lang/Cloneable"), (0, .class_ 1), (0, u "java/lang/Object"), (0, .class_ 3)] 3

/-- java/lang/Cloneable -/
def k7 : Class := { plain "java/lang/Cloneable" (some 0) with
  accessFlags := 1537
  interfaces := #[]
  cf := some (fileOf pool7 2 #[] #[] 1537 4 #[] #[])
  fields := #[]
  methods := #[]
  instanceTypes := #[]
  staticTypes := #[]
  resolved := Array.replicate 8 none
  statics := none }

/-- the primitive byte -/
def k8 : Class := { plain "byte" none with kind := .primitive 'B', accessFlags := 0x411 }
/-- [B -/
def k9 : Class := { plain "[B" (some 0) with kind := .array 8 .byte, interfaces := #[7, 4], accessFlags := 1041 }

/-- the primitive int -/
def k10 : Class := { plain "int" none with kind := .primitive 'I', accessFlags := 0x411 }
/-- [I -/
def k11 : Class := { plain "[I" (some 0) with kind := .array 10 .int, interfaces := #[7, 4], accessFlags := 1041 }

def heap : Heap := #[{ cls := 6, slots := #[.ref 1, .ref 2, .ref 3, .ref 4, .null], vm := .statics 6 },
  { cls := 6, slots := #[.null, .int 0, .int 0, .null], vm := .none },
  { cls := 6, slots := #[.null, .int 1, .int 0, .null], vm := .none },
  { cls := 6, slots := #[.null, .int 2, .int 0, .null], vm := .none },
  { cls := 6, slots := #[.null, .int 3, .int 0, .null], vm := .none }]
def classes : Array Class := #[k0, k1, k2, k3, k4, k5, k6, k7, k8, k9, k10, k11]
def interned : List (Array UInt16 × Addr) := []
def slotsUsed : Nat := 21
def theMethod : MethodId := ⟨1, 1⟩
def args0 : Array Value := #[.int 5]
def aboutOver (below : List Frame) : State where
  vm := { classes := classes, interned := interned.toArray }
  heap := heap
  slotsUsed := slotsUsed
  threads := #[{ frames := .invoking theMethod args0 :: below }]
def below0 : List Frame := [.native { method := ⟨0, 0⟩, args := #[] }]
def about1 : State := aboutOver below0
def p0 : Program := .bare "" "" ""
def e0 : Env := launch0.env 0 0 0
theorem w_frames : about1.frames = Frame.invoking theMethod args0 :: below0 := rfl
set_option maxRecDepth 65536 in
theorem w_args : argsFit about1.vm theMethod args0 = true := by decide +kernel
set_option maxRecDepth 65536 in
theorem w_heap : heapFits about1 = true := by decide +kernel
set_option maxRecDepth 65536 in
theorem w_runnable : about1.curStatus? = some .runnable := by decide +kernel
set_option maxRecDepth 65536 in
theorem w_alone : about1.alone = true := by decide +kernel
set_option maxRecDepth 65536 in
theorem w_named : about1.methodNamed? x = some theMethod := by decide +kernel
set_option maxRecDepth 65536 in
theorem w_hears : about1.hears theMethod below0 = true := by decide +kernel
set_option maxRecDepth 65536 in
theorem w_ripe : about1.ripe theMethod args0 below0 = true := by decide +kernel
theorem w_running : about1.status = .running := rfl
set_option maxRecDepth 65536 in
theorem w_room : about1.hasRoom e0.platform room_1 = true :=
  launch0.hasRoom_least _ room_1 (by decide +kernel) (by decide +kernel) (by decide +kernel) (by decide +kernel) (by decide +kernel) (by decide +kernel)
theorem allAtoms_all (ts : List Jvm.Cond) (a : Array Jvm.Value) (st : Jvm.State) : (allAtoms ts).before a st = ts.all (fun c => c.before a st) := by
  induction ts with
  | nil => rfl
  | cons c t ih =>
    show (Jvm.Cond.and c (allAtoms t)).before a st = _
    rw [Jvm.Cond.before_and, ih, List.all_cons]
def words1 : List Jvm.Cond := Jvm.Cond.code x code maxLocals ret :: tables_1
/-- a 'code' word, met by the world's own term for the bytes: nothing is compared byte by byte -/
theorem code_word {y : MethodName} {bytes : ByteArray} {mx : Nat} {rt : Option FieldType} {a : Array Value} {s : State} {m : MethodId} {meth : Method} {c : Code} (h1 : s.methodNamed? y = some m) (h2 : s.vm.method? m = some meth) (h3 : meth.code = some c) (h4 : c.code = bytes)
    (h5 : (c.maxLocals == mx && c.exceptionTable.isEmpty && decide (c.maxStack ≤ mostOperands) && decide (meth.sig.returnType = rt) && !meth.locks && decide (parseMethodDescriptor y.desc = some meth.sig)) = true) : (Jvm.Cond.code y bytes mx rt).before a s = true := by
  simp only [Bool.and_eq_true, beq_iff_eq, Bool.not_eq_true', decide_eq_true_eq] at h5
  obtain ⟨⟨⟨⟨⟨g1, g2⟩, g3⟩, g4⟩, g5⟩, g6⟩ := h5
  simp [Cond.before, Cond.holds, Cond.value, h1, h2, h3, h4, g1, g2, g3, g4, g5, g6]
def isCode : Jvm.Cond → Bool
  | .code _ _ _ _ => true
  | _ => false
theorem all_split {L : List Jvm.Cond} {P : Jvm.Cond → Bool} (h1 : L.all (fun c => isCode c || P c) = true) (h2 : ∀ c ∈ L.filter isCode, P c = true) : L.all P = true := by
  refine List.all_eq_true.mpr fun c hc => ?_
  have h := List.all_eq_true.mp h1 c hc
  rcases Bool.eq_false_or_eq_true (isCode c) with hi | hi
  · exact h2 c (List.mem_filter.mpr ⟨hc, hi⟩)
  · simpa [hi] using h
set_option maxRecDepth 65536 in
theorem w_c0 : (Jvm.Cond.code x code maxLocals ret).before args0 about1 = true := code_word (m := ⟨1, 1⟩) (meth := k1m1) (c := k1c1) (by decide +kernel) rfl rfl rfl (by decide +kernel)
set_option maxRecDepth 65536 in
theorem w_c1 : (Jvm.Cond.code ({ cls := "com/example/fences_for_xpath/fencesforxpath/OccurrenceOptionalPinLaw", name := "pick", desc := "(I)Lcom/example/fences_for_xpath/fencesforxpath/Particle$Occurrence;" } : Jvm.MethodName) method_3_code (2 : Nat) (Option.some (Jvm.ClassFile.FieldType.object "com/example/fences_for_xpath/fencesforxpath/Particle$Occurrence"))).before args0 about1 = true := code_word (m := ⟨1, 2⟩) (meth := k1m2) (c := k1c2) (by decide +kernel) rfl rfl rfl (by decide +kernel)
set_option maxRecDepth 65536 in
theorem w_c2 : (Jvm.Cond.code ({ cls := "com/example/fences_for_xpath/fencesforxpath/Particle$Occurrence", name := "optional", desc := "()Lcom/example/fences_for_xpath/fencesforxpath/Particle$Occurrence;" } : Jvm.MethodName) prog_19_method_4_code (2 : Nat) (Option.some (Jvm.ClassFile.FieldType.object "com/example/fences_for_xpath/fencesforxpath/Particle$Occurrence"))).before args0 about1 = true := code_word (m := ⟨6, 0⟩) (meth := k6m0) (c := k6c0) (by decide +kernel) rfl rfl rfl (by decide +kernel)
set_option maxRecDepth 65536 in
theorem w_c3 : (Jvm.Cond.code ({ cls := "com/example/fences_for_xpath/fencesforxpath/OccurrenceOptionalPinLaw", name := "minOf", desc := "(Lcom/example/fences_for_xpath/fencesforxpath/Particle$Occurrence;)I" } : Jvm.MethodName) method_4_code (1 : Nat) (Option.some Jvm.ClassFile.FieldType.int)).before args0 about1 = true := code_word (m := ⟨1, 3⟩) (meth := k1m3) (c := k1c3) (by decide +kernel) rfl rfl rfl (by decide +kernel)
set_option maxRecDepth 65536 in
theorem w_c4 : (Jvm.Cond.code ({ cls := "com/example/fences_for_xpath/fencesforxpath/OccurrenceOptionalPinLaw", name := "maxOf", desc := "(Lcom/example/fences_for_xpath/fencesforxpath/Particle$Occurrence;)I" } : Jvm.MethodName) method_5_code (1 : Nat) (Option.some Jvm.ClassFile.FieldType.int)).before args0 about1 = true := code_word (m := ⟨1, 4⟩) (meth := k1m4) (c := k1c4) (by decide +kernel) rfl rfl rfl (by decide +kernel)
def codes1 : List Jvm.Cond := [Jvm.Cond.code x code maxLocals ret, Jvm.Cond.code ({ cls := "com/example/fences_for_xpath/fencesforxpath/OccurrenceOptionalPinLaw", name := "pick", desc := "(I)Lcom/example/fences_for_xpath/fencesforxpath/Particle$Occurrence;" } : Jvm.MethodName) method_3_code (2 : Nat) (Option.some (Jvm.ClassFile.FieldType.object "com/example/fences_for_xpath/fencesforxpath/Particle$Occurrence")), Jvm.Cond.code ({ cls := "com/example/fences_for_xpath/fencesforxpath/Particle$Occurrence", name := "optional", desc := "()Lcom/example/fences_for_xpath/fencesforxpath/Particle$Occurrence;" } : Jvm.MethodName) prog_19_method_4_code (2 : Nat) (Option.some (Jvm.ClassFile.FieldType.object "com/example/fences_for_xpath/fencesforxpath/Particle$Occurrence")), Jvm.Cond.code ({ cls := "com/example/fences_for_xpath/fencesforxpath/OccurrenceOptionalPinLaw", name := "minOf", desc := "(Lcom/example/fences_for_xpath/fencesforxpath/Particle$Occurrence;)I" } : Jvm.MethodName) method_4_code (1 : Nat) (Option.some Jvm.ClassFile.FieldType.int), Jvm.Cond.code ({ cls := "com/example/fences_for_xpath/fencesforxpath/OccurrenceOptionalPinLaw", name := "maxOf", desc := "(Lcom/example/fences_for_xpath/fencesforxpath/Particle$Occurrence;)I" } : Jvm.MethodName) method_5_code (1 : Nat) (Option.some Jvm.ClassFile.FieldType.int)]
set_option maxRecDepth 65536 in
theorem codes_eq : words1.filter isCode = codes1 := rfl
theorem w_codes : ∀ c ∈ words1.filter isCode, c.before args0 about1 = true := by
  rw [codes_eq]
  intro c hc
  simp only [codes1, List.mem_cons, List.not_mem_nil, or_false] at hc
  rcases hc with rfl | rfl | rfl | rfl | rfl
  · exact w_c0
  · exact w_c1
  · exact w_c2
  · exact w_c3
  · exact w_c4
set_option maxRecDepth 65536 in
theorem w_t1 : (words1.take 24).all (fun c => isCode c || c.before args0 about1) = true := by decide +kernel
set_option maxRecDepth 65536 in
theorem w_t2 : (words1.drop 24).all (fun c => isCode c || c.before args0 about1) = true := by decide +kernel
theorem w_tables : (allAtoms (Jvm.Cond.code x code maxLocals ret :: tables_1)).before args0 about1 = true := by
  rw [allAtoms_all]
  show words1.all (fun c => c.before args0 about1) = true
  refine all_split ?_ w_codes
  rw [← List.take_append_drop 24 words1, List.all_append, w_t1, w_t2]
  rfl
set_option maxRecDepth 65536 in
theorem w_case : (Jvm.Cond.and given_1 narrow_1).before args0 about1 = true := by decide +kernel
theorem w_applies : (headSpec (Jvm.Cond.code x code maxLocals ret :: tables_1) room_1).applies x e0.platform about1 = true :=
  (Spec.applies_iff w_frames).mpr ⟨w_running, w_runnable, w_alone, w_named, w_hears, w_ripe, w_room, w_tables⟩
theorem atStart : AtStart classFile x code maxLocals ret World_1 tables_1 room_1 Calls_1 rest_1 Pre_1 launch0 p0 e0 about1 theMethod args0 below0 :=
  ⟨lists_1, trivial, launch0.admits_env _ _ _, launch0.least_env, fairChoices_fair.cas, fairChoices_fair.clock, w_frames, w_args, w_heap, w_applies, trivial, trivial, w_case⟩
end start1
theorem witness_1 : WitnessClaimed_1 := ⟨start1.p0, start1.e0, start1.about1, start1.theMethod, start1.args0, start1.below0, start1.atStart⟩
end Jvm.Pilot.@@N@@
