import JvmDerived
import JvmDerived.Pilot.@@N@@Statement
import JvmDerived.Pilot.@@N@@Code
set_option linter.unusedVariables false
set_option linter.unusedSimpArgs false
namespace Jvm.RoadKit
open Sem ClassFile Op Lib Jvm.Stand Jvm.Free Jvm.LawKit
section Own
variable {p : Program} {l : Launch} {e : Env} {R : Room} {s : State} {m : MethodId} {args : Array Value} {below : List Frame} {meth : Method} {c : Code} {T : State} {locs : List Loc} {cells slots : Nat} {Q : Option Value → Heap → List Loc → Prop} {k n : Nat} {A B : State} {h : Heap}
/-- from the state A the run comes to its end, with what Q says -/
def Goes (p : Program) (e : Env) (below : List Frame) (s : State) (Q : Option Value → Heap → List Loc → Prop) (k n : Nat) (A : State) : Prop :=
  ∃ s₂ o, Steps p.tables e below A s₂ ∧ s₂.status = .running ∧ Ended s₂ below o ∧ ∃ v L, o = .returned v ∧ Q v s₂.heap L ∧ FrameEnd s o s₂ L k n
theorem Goes.step (q : ∀ t, Steps p.tables e below B t → Steps p.tables e below A t) (g : Goes p e below s Q k n B) : Goes p e below s Q k n A := by
  obtain ⟨s₂, o, h1, h2⟩ := g
  exact ⟨s₂, o, q _ h1, h2⟩
theorem Goes.via (q : Steps p.tables e below A B) (g : Goes p e below s Q k n B) : Goes p e below s Q k n A := by
  obtain ⟨s₂, o, h1, h2⟩ := g
  exact ⟨s₂, o, q.trans h1, h2⟩
theorem Goes.enter {g g' : JFrame} (q : g = g') (h : Goes p e below s Q k n (T.setTop g')) : Goes p e below s Q k n (T.setTop g) := q ▸ h
theorem Goes.out (X : Stand p l e R s m args below meth c T locs cells slots) (eT : T.heap = h) {v : Option Value} (hv : meth.sig.returnType = none → v = none) (hlk : meth.locks = false)
    (hs : ∀ fs, (∀ (f : JFrame) (acts : List Action), f.method = m → f.locked = none → f.entered = [] → (doReturn e (T.setTop f) acts v).1 = T.setFrames fs) → Steps p.tables e below A (T.setFrames fs)) (hk : cells ≤ k) (hn : slots ≤ n) (hQ : Q v h locs) : Goes p e below s Q k n A := by
  obtain ⟨fs, hr, hrun, hended, hW, hsame⟩ := X.leave (v := v) hv hlk
  exact ⟨_, _, hs fs hr, hrun, hended, _, _, rfl, (by show Q v T.heap locs; rw [eT]; exact hQ), ⟨_, rfl⟩, hW, hsame.mono hk hn⟩
theorem own_some {t : FieldType} {v : Option Value} (h : meth.sig.returnType = some t) : meth.sig.returnType = none → v = none := fun q => by rw [h] at q; cases q
theorem Goes.retI (X : Stand p l e R s m args below meth c T locs cells slots) (hx : p.tables.exec = Jvm.exec) (eT : T.heap = h) {pc : Nat} {Ls : Array Slot} {z : Int32} {rest : List Value} (hret : meth.sig.returnType = some .int) (hlk : meth.locks = false) (hd : decode c.code pc = .ok (.ireturn, 1)) (hk : cells ≤ k) (hn : slots ≤ n) (hQ : Q (some (.int z)) h locs) :
    Goes p e below s Q k n (T.setTop (mkF m pc Ls (.int z :: rest))) :=
  Goes.out X eT (own_some hret) hlk (fun fs hr => retOut X hx hret rfl (Or.inl ⟨rfl, Or.inl rfl, z, rfl⟩) hd hr) hk hn hQ
theorem Goes.retN (X : Stand p l e R s m args below meth c T locs cells slots) (hx : p.tables.exec = Jvm.exec) (eT : T.heap = h) {pc : Nat} {Ls : Array Slot} {z : Int32} {t : FieldType} {rest : List Value} (hret : meth.sig.returnType = some t) (ht : t = .boolean ∨ t = .byte ∨ t = .char ∨ t = .short) (hlk : meth.locks = false) (hd : decode c.code pc = .ok (.ireturn, 1)) (hk : cells ≤ k) (hn : slots ≤ n) (hQ : Q (some (.int (nar t z))) h locs) :
    Goes p e below s Q k n (T.setTop (mkF m pc Ls (.int z :: rest))) :=
  Goes.out X eT (own_some hret) hlk (fun fs hr => Jvm.RoadKit.retN X hx hret ht hd hr) hk hn hQ
theorem Goes.retV (X : Stand p l e R s m args below meth c T locs cells slots) (hx : p.tables.exec = Jvm.exec) (eT : T.heap = h) {pc : Nat} {Ls : Array Slot} (hret : meth.sig.returnType = none) (hlk : meth.locks = false) (hd : decode c.code pc = .ok (.return_, 1)) (hk : cells ≤ k) (hn : slots ≤ n) (hQ : Q none h locs) :
    Goes p e below s Q k n (T.setTop (mkF m pc Ls [])) :=
  Goes.out X eT (fun _ => rfl) hlk (fun fs hr => X.returnOut hx hret hd hr) hk hn hQ
theorem Goes.retJ (X : Stand p l e R s m args below meth c T locs cells slots) (hx : p.tables.exec = Jvm.exec) (eT : T.heap = h) {pc : Nat} {Ls : Array Slot} {z : Int64} {rest : List Value} (hret : meth.sig.returnType = some .long) (hlk : meth.locks = false) (hd : decode c.code pc = .ok (.lreturn, 1)) (hk : cells ≤ k) (hn : slots ≤ n) (hQ : Q (some (.long z)) h locs) :
    Goes p e below s Q k n (T.setTop (mkF m pc Ls (.long z :: rest))) :=
  Goes.out X eT (own_some hret) hlk (fun fs hr => retOut X hx hret rfl (Or.inr (Or.inl ⟨rfl, rfl, z, rfl⟩)) hd hr) hk hn hQ
theorem Goes.retD (X : Stand p l e R s m args below meth c T locs cells slots) (hx : p.tables.exec = Jvm.exec) (eT : T.heap = h) {pc : Nat} {Ls : Array Slot} {z : UInt64} {rest : List Value} (hret : meth.sig.returnType = some .double) (hlk : meth.locks = false) (hd : decode c.code pc = .ok (.dreturn, 1)) (hk : cells ≤ k) (hn : slots ≤ n) (hQ : Q (some (.double z)) h locs) :
    Goes p e below s Q k n (T.setTop (mkF m pc Ls (.double z :: rest))) :=
  Goes.out X eT (own_some hret) hlk (fun fs hr => retOut X hx hret rfl (Or.inr (Or.inr (Or.inl ⟨rfl, rfl, z, rfl⟩))) hd hr) hk hn hQ
theorem own_narR {t : FieldType} {w : Value} (h : t.isReference = true) : narrow t w = w := by cases t <;> first | rfl | (cases w <;> first | rfl | cases h)
theorem Goes.retA (X : Stand p l e R s m args below meth c T locs cells slots) (hx : p.tables.exec = Jvm.exec) (eT : T.heap = h) {pc : Nat} {Ls : Array Slot} {w : Value} {t : FieldType} {rest : List Value} (hret : meth.sig.returnType = some t) (ht : t.isReference = true) (hw : w.isRef = true) (hlk : meth.locks = false) (hd : decode c.code pc = .ok (.areturn, 1)) (hk : cells ≤ k) (hn : slots ≤ n) (hQ : Q (some w) h locs) :
    Goes p e below s Q k n (T.setTop (mkF m pc Ls (w :: rest))) :=
  Goes.out X eT (own_some hret) hlk (fun fs hr => retOut X hx hret (own_narR ht) (Or.inr (Or.inr (Or.inr (Or.inr ⟨rfl, ht, hw⟩)))) hd hr) hk hn hQ
theorem own_z {Z : State} {n0 : Nat} (O : Old Z n0 h) : n0 ≤ h.size := O.1 ▸ O.2.1
end Own
end Jvm.RoadKit
namespace Jvm.Pilot.@@N@@
open Jvm Jvm.ClassFile Sem Op Lib Jvm.Free Jvm.Stand Jvm.LawKit Jvm.RoadKit Bundle Jvm.Pilot.@@N@@.Jvm.D
theorem own_eqI {args : Array Value} {first s : State} {o : Option Outcome} {idx : List Nat} {t : Term} {v : Int32} (h : (Jvm.Cond.eq t (.int v)).value args first o s idx = some true) : t.eval args first o idx s = some (.int v) := by
  obtain ⟨x, y, hx, hy, k1, k2⟩ := cmp_v (Or.inl h)
  rw [Term.int_eval] at hy
  obtain rfl := Option.some.inj hy
  obtain ⟨z, rfl⟩ := k2
  have q : z = v := by simpa [Jvm.Cond.value, hx, Term.int_eval] using h
  rw [hx, q]
theorem own_eqR {args : Array Value} {first s : State} {o : Option Outcome} {idx : List Nat} {t u : Term} {a : Addr} (hu : u.eval args first o idx s = some (.ref a)) (h : (Jvm.Cond.eq t u).value args first o s idx = some true) : t.eval args first o idx s = some (.ref a) := by
  obtain ⟨x, y, hx, hy, k1, k2⟩ := cmp_v (Or.inl h)
  obtain rfl := Option.some.inj (hu.symm.trans hy)
  obtain ⟨-, q⟩ := k2
  have q2 := gotT (eq_R hx hu q rfl) h
  rw [hx, q2]
theorem own_len {args : Array Value} {s : State} {t : Term} {n : Int32} {a : Addr} {cl : Cell} {ty : FieldType} (A : Arr s s.heap a cl ty) (ev : t.eval args s none [] s = some (.ref a)) (h : (Jvm.Cond.eq (.length t) (.int n)).value args s none s [] = some true) : cl.slots.size < 2 ^ 31 ∧ cl.slots.size.toInt32 = n := by
  have q := own_eqI h
  have f := A.fin (Vm.Alike.refl _)
  by_cases hl : cl.slots.size < 2 ^ 31
  · rw [len_f ev f hl] at q
    exact ⟨hl, Value.int.inj (Option.some.inj q)⟩
  · simp [Term.eval, ev, f, hl] at q
theorem own_el {args : Array Value} {s : State} {t : Term} {j v : Int32} {a : Addr} {cl : Cell} {ty : FieldType} (A : Arr s s.heap a cl ty) (ev : t.eval args s none [] s = some (.ref a)) (h : (Jvm.Cond.eq (.elem t (.int j)) (.int v)).value args s none s [] = some true) : cl.slots[j.toNatClampNeg]? = some (.int v) := (elem_in (own_eqI h) ev (Term.int_eval j) A.1).2
theorem own_elR {args : Array Value} {s : State} {t u : Term} {j : Int32} {a b : Addr} {cl : Cell} {ty : FieldType} (A : Arr s s.heap a cl ty) (ev : t.eval args s none [] s = some (.ref a)) (hu : u.eval args s none [] s = some (.ref b)) (h : (Jvm.Cond.eq (.elem t (.int j)) u).value args s none s [] = some true) : cl.slots[j.toNatClampNeg]? = some (.ref b) := (elem_in (own_eqR hu h) ev (Term.int_eval j) A.1).2
def OwnSt (Z : State) (a_UNARMORED : Addr) (a_CHAIN_MAIL : Addr) (a_HALF_PLATE : Addr) (a_LEATHER : Addr) (a_FULL_PLATE : Addr) (a_SPLINT_MAIL : Addr) : Prop := Sta Z Z.heap "com/example/roundkeeper/roundkeeper/rulesets/sealedorders/Armor" "UNARMORED" "Lcom/example/roundkeeper/roundkeeper/rulesets/sealedorders/Armor;" (.ref a_UNARMORED) ∧ Exa Z Z.heap a_UNARMORED "com/example/roundkeeper/roundkeeper/rulesets/sealedorders/Armor" ∧ Fld Z Z.heap a_UNARMORED "com/example/roundkeeper/roundkeeper/rulesets/sealedorders/Armor" "deflection" "I" (.int (3 : Int32)) ∧ Sta Z Z.heap "com/example/roundkeeper/roundkeeper/rulesets/sealedorders/Armor" "CHAIN_MAIL" "Lcom/example/roundkeeper/roundkeeper/rulesets/sealedorders/Armor;" (.ref a_CHAIN_MAIL) ∧ Exa Z Z.heap a_CHAIN_MAIL "com/example/roundkeeper/roundkeeper/rulesets/sealedorders/Armor" ∧ Fld Z Z.heap a_CHAIN_MAIL "com/example/roundkeeper/roundkeeper/rulesets/sealedorders/Armor" "deflection" "I" (.int (1 : Int32)) ∧ Fld Z Z.heap a_CHAIN_MAIL "com/example/roundkeeper/roundkeeper/rulesets/sealedorders/Armor" "readyOnly" "Z" (.int (0 : Int32)) ∧ Sta Z Z.heap "com/example/roundkeeper/roundkeeper/rulesets/sealedorders/Armor" "HALF_PLATE" "Lcom/example/roundkeeper/roundkeeper/rulesets/sealedorders/Armor;" (.ref a_HALF_PLATE) ∧ Exa Z Z.heap a_HALF_PLATE "com/example/roundkeeper/roundkeeper/rulesets/sealedorders/Armor" ∧ Fld Z Z.heap a_HALF_PLATE "com/example/roundkeeper/roundkeeper/rulesets/sealedorders/Armor" "readyOnly" "Z" (.int (0 : Int32)) ∧ Fld Z Z.heap a_HALF_PLATE "com/example/roundkeeper/roundkeeper/rulesets/sealedorders/Armor" "deflection" "I" (.int (2 : Int32)) ∧ Sta Z Z.heap "com/example/roundkeeper/roundkeeper/rulesets/sealedorders/Armor" "LEATHER" "Lcom/example/roundkeeper/roundkeeper/rulesets/sealedorders/Armor;" (.ref a_LEATHER) ∧ Exa Z Z.heap a_LEATHER "com/example/roundkeeper/roundkeeper/rulesets/sealedorders/Armor" ∧ Fld Z Z.heap a_LEATHER "com/example/roundkeeper/roundkeeper/rulesets/sealedorders/Armor" "deflection" "I" (.int (2 : Int32)) ∧ Fld Z Z.heap a_UNARMORED "com/example/roundkeeper/roundkeeper/rulesets/sealedorders/Armor" "readyOnly" "Z" (.int (1 : Int32)) ∧ Sta Z Z.heap "com/example/roundkeeper/roundkeeper/rulesets/sealedorders/Armor" "FULL_PLATE" "Lcom/example/roundkeeper/roundkeeper/rulesets/sealedorders/Armor;" (.ref a_FULL_PLATE) ∧ Exa Z Z.heap a_FULL_PLATE "com/example/roundkeeper/roundkeeper/rulesets/sealedorders/Armor" ∧ Fld Z Z.heap a_FULL_PLATE "com/example/roundkeeper/roundkeeper/rulesets/sealedorders/Armor" "readyOnly" "Z" (.int (0 : Int32)) ∧ Fld Z Z.heap a_FULL_PLATE "com/example/roundkeeper/roundkeeper/rulesets/sealedorders/Armor" "deflection" "I" (.int (3 : Int32)) ∧ Sta Z Z.heap "com/example/roundkeeper/roundkeeper/rulesets/sealedorders/Armor" "SPLINT_MAIL" "Lcom/example/roundkeeper/roundkeeper/rulesets/sealedorders/Armor;" (.ref a_SPLINT_MAIL) ∧ Exa Z Z.heap a_SPLINT_MAIL "com/example/roundkeeper/roundkeeper/rulesets/sealedorders/Armor" ∧ Fld Z Z.heap a_SPLINT_MAIL "com/example/roundkeeper/roundkeeper/rulesets/sealedorders/Armor" "deflection" "I" (.int (1 : Int32)) ∧ Fld Z Z.heap a_SPLINT_MAIL "com/example/roundkeeper/roundkeeper/rulesets/sealedorders/Armor" "readyOnly" "Z" (.int (0 : Int32)) ∧ Fld Z Z.heap a_LEATHER "com/example/roundkeeper/roundkeeper/rulesets/sealedorders/Armor" "readyOnly" "Z" (.int (0 : Int32))
theorem own_6 {z : Int32} (h1 : 0 ≤ z.toInt) (h2 : z.toInt ≤ 5) : z = 0 ∨ z = 1 ∨ z = 2 ∨ z = 3 ∨ z = 4 ∨ z = 5 := by
  have q : z.toInt = 0 ∨ z.toInt = 1 ∨ z.toInt = 2 ∨ z.toInt = 3 ∨ z.toInt = 4 ∨ z.toInt = 5 := by omega
  rcases q with q | q | q | q | q | q
  · exact Or.inl (Int32.toInt_inj.mp q)
  · exact Or.inr (Or.inl (Int32.toInt_inj.mp q))
  · exact Or.inr (Or.inr (Or.inl (Int32.toInt_inj.mp q)))
  · exact Or.inr (Or.inr (Or.inr (Or.inl (Int32.toInt_inj.mp q))))
  · exact Or.inr (Or.inr (Or.inr (Or.inr (Or.inl (Int32.toInt_inj.mp q)))))
  · exact Or.inr (Or.inr (Or.inr (Or.inr (Or.inr (Int32.toInt_inj.mp q)))))
theorem own_m6 {x z : Int32} (h : z = ((x &&& (2147483647 : Int32)) % (6 : Int32))) : z = 0 ∨ z = 1 ∨ z = 2 ∨ z = 3 ∨ z = 4 ∨ z = 5 := by
  have a := c_mask x 2147483647 31 (by decide) (by decide)
  have b := (c_irem (x &&& 2147483647) 6 6 (by decide)).1 (by rw [a]; omega)
  rw [← h] at b
  exact own_6 (by omega) (by omega)
theorem own_bit {x z : Int32} (h : z = (x &&& (1 : Int32))) : z = 0 ∨ z = 1 := by rw [h]; exact and_one x
def own_def (p ro df : Int32) : Int32 := if p = 0 then (if ro = 0 then df else 0) else df
theorem d1_0 : decode prog_26_method_5_code 0 = .ok (.iload_n 1, 1) := by decide +kernel
theorem d1_1 : decode prog_26_method_5_code 1 = .ok (.ifCond .ne 10, 3) := by decide +kernel
theorem d1_4 : decode prog_26_method_5_code 4 = .ok (.aload_n 0, 1) := by decide +kernel
theorem d1_5 : decode prog_26_method_5_code 5 = .ok (.getfield 49, 3) := by decide +kernel
theorem d1_8 : decode prog_26_method_5_code 8 = .ok (.ifCond .ne 10, 3) := by decide +kernel
theorem d1_11 : decode prog_26_method_5_code 11 = .ok (.aload_n 0, 1) := by decide +kernel
theorem d1_12 : decode prog_26_method_5_code 12 = .ok (.getfield 45, 3) := by decide +kernel
theorem d1_15 : decode prog_26_method_5_code 15 = .ok (.goto 4, 3) := by decide +kernel
theorem d1_19 : decode prog_26_method_5_code 19 = .ok (.ireturn, 1) := by decide +kernel
theorem d1_18 : decode prog_26_method_5_code 18 = .ok (.iconst 0, 1) := by decide +kernel
theorem pn_Armor : plainName "com/example/roundkeeper/roundkeeper/rulesets/sealedorders/Armor" = true := by first | (simp [plainName, overriddenIn]; done) | decide +kernel
theorem ef_rm1 (m : MethodId) (x0 : Addr) (x1 : Int32) : entryFrame m #[(.ref x0), (.int x1)] 2 = mkF m 0 #[.val (.ref x0), .val (.int x1)] [] := by first | (simp [entryFrame, mkF, argsToLocals, Value.category]; done) | rfl
def Q1 (Z : State) (a1 : Addr) (p2 : Int32) (ro : Int32) (df : Int32) (h0 : Heap) (n0 : Nat) (v : Option Value) (h : Heap) (L : List Loc) : Prop := v = some (.int (own_def p2 ro df)) ∧ Fr n0 L ∧ h = h0
set_option maxRecDepth 65536 in
set_option maxHeartbeats 40000000 in
theorem rm1 (l : Launch) (Z : State) (a0 : Array Value) (hw : ∀ d ∈ tables_1, d.before a0 Z = true) (ws : List Jvm.Cond) (a1 : Addr) (p2 : Int32) (ro : Int32) (df : Int32) (h0 : Heap) (n0 : Nat) (O0 : Old Z n0 h0) (hp2 : p2 = 0 ∨ p2 = 1) (hro : ro = 0 ∨ ro = 1) (Fro : Fld Z h0 a1 "com/example/roundkeeper/roundkeeper/rulesets/sealedorders/Armor" "readyOnly" "Z" (.int ro)) (Fd : Fld Z h0 a1 "com/example/roundkeeper/roundkeeper/rulesets/sealedorders/Armor" "deflection" "I" (.int df)) :
    MetFree l (⟨"com/example/roundkeeper/roundkeeper/rulesets/sealedorders/Armor", "deflection", "(Z)I"⟩ : MethodName) (head1 (Jvm.Cond.code (⟨"com/example/roundkeeper/roundkeeper/rulesets/sealedorders/Armor", "deflection", "(Z)I"⟩ : MethodName) prog_26_method_5_code 2 (some .int) :: ws) ({ frames := 0, cells := 0, slots := 0, locals := 0 } : Room)) (fun a U => a = #[(.ref a1), (.int p2)] ∧ Z.Warmed39 U.vm ∧ U.heap = h0) (fun _ _ _ _ _ => True) (fun _ U o U' => ∃ v L, o = .returned v ∧ Q1 Z a1 p2 ro df h0 n0 v U'.heap L ∧ FrameEnd U o U' L ({ frames := 0, cells := 0, slots := 0, locals := 0 } : Room).cells ({ frames := 0, cells := 0, slots := 0, locals := 0 } : Room).slots) := by
  refine MetFree.of_bodySF (plainFor_of_name pn_Armor) hisR ?_
  intro p e s m args below meth c s₁ Bd hml0 hP hK
  obtain ⟨rfl, hZ, hh⟩ := hP
  have hx := Bd.exec
  have hby := Bd.bytes
  have hlk : meth.locks = false := BodyLoose.notSynchronized Bd
  have hml : c.maxLocals = 2 := hml0
  have hown : s.vm.findClass "com/example/roundkeeper/roundkeeper/rulesets/sealedorders/Armor" = some m.cls := findClass_of_methodNamed Bd.named
  have hnm := (name_of_methodNamed Bd.named Bd.method).1
  have X0 : Stand p l e ({ frames := 0, cells := 0, slots := 0, locals := 0 } : Room) s m #[(.ref a1), (.int p2)] below meth c s₁ [] 0 0 := Stand.of_body Bd
  have e0 : s₁.heap = h0 := by rw [← hh, Bd.state]; rfl
  have N0 := Fr.nil n0
  show Goes p e below s (Q1 Z a1 p2 ro df h0 n0) ({ frames := 0, cells := 0, slots := 0, locals := 0 } : Room).cells ({ frames := 0, cells := 0, slots := 0, locals := 0 } : Room).slots (s₁.setTop (entryFrame m #[(.ref a1), (.int p2)] 2))
  refine Goes.enter (g' := (mkF m 0 #[.val (.ref a1), .val (.int p2)] [])) (ef_rm1 m a1 p2) ?_
  rcases hp2 with rfl | rfl
  · rcases hro with rfl | rfl
    · refine Goes.step (B := s₁.setTop (mkF m 1 #[.val (.ref a1), .val (.int (0 : Int32))] [(.int (0 : Int32))])) (fun _ k => XS.iloadN X0.here hx rfl (hb hby d1_0) rfl k) ?_
      refine Goes.step (B := s₁.setTop (mkF m 4 #[.val (.ref a1), .val (.int (0 : Int32))] [])) (fun _ k => XS.ifNo X0.here hx rfl (hb hby d1_1) rfl ((if0 _ _).trans (teq (by decide)).2) k) ?_
      refine Goes.step (B := s₁.setTop (mkF m 5 #[.val (.ref a1), .val (.int (0 : Int32))] [(.ref a1)])) (fun _ k => XS.aloadN X0.here hx rfl (hb hby d1_4) rfl rfl k) ?_
      obtain ⟨T1, X1, e1, st1⟩ := getF X0 hx hZ hown (host := "") (Or.inl (hw _ (List.mem_of_getElem? (i := 13) rfl))) Via.refl e0 Fro (g := (mkF m 5 #[.val (.ref a1), .val (.int (0 : Int32))] [(.ref a1)])) rfl rfl (hb hby d1_5)
      refine Goes.step (B := T1.setTop (mkF m 8 #[.val (.ref a1), .val (.int (0 : Int32))] [(.int (0 : Int32))])) st1 ?_
      refine Goes.step (B := T1.setTop (mkF m 11 #[.val (.ref a1), .val (.int (0 : Int32))] [])) (fun _ k => XS.ifNo X1.here hx rfl (hb hby d1_8) rfl ((if0 _ _).trans (teq (by decide)).2) k) ?_
      refine Goes.step (B := T1.setTop (mkF m 12 #[.val (.ref a1), .val (.int (0 : Int32))] [(.ref a1)])) (fun _ k => XS.aloadN X1.here hx rfl (hb hby d1_11) rfl rfl k) ?_
      obtain ⟨T2, X2, e2, st2⟩ := getF X1 hx hZ hown (host := "") (Or.inl (hw _ (List.mem_of_getElem? (i := 9) rfl))) Via.refl e1 Fd (g := (mkF m 12 #[.val (.ref a1), .val (.int (0 : Int32))] [(.ref a1)])) rfl rfl (hb hby d1_12)
      refine Goes.step (B := T2.setTop (mkF m 15 #[.val (.ref a1), .val (.int (0 : Int32))] [(.int df)])) st2 ?_
      refine Goes.step (B := T2.setTop (mkF m 19 #[.val (.ref a1), .val (.int (0 : Int32))] [(.int df)])) (fun _ k => XS.goto X2.here hx rfl (pc0 := 15) (pc' := 19) rfl (hb hby d1_15) (by decide) (by decide) k) ?_
      exact Goes.retI X2 hx e2 Bd.returns hlk (hb hby d1_19) (by decide) (by decide) (⟨rfl, N0, rfl⟩)
    · refine Goes.step (B := s₁.setTop (mkF m 1 #[.val (.ref a1), .val (.int (0 : Int32))] [(.int (0 : Int32))])) (fun _ k => XS.iloadN X0.here hx rfl (hb hby d1_0) rfl k) ?_
      refine Goes.step (B := s₁.setTop (mkF m 4 #[.val (.ref a1), .val (.int (0 : Int32))] [])) (fun _ k => XS.ifNo X0.here hx rfl (hb hby d1_1) rfl ((if0 _ _).trans (teq (by decide)).2) k) ?_
      refine Goes.step (B := s₁.setTop (mkF m 5 #[.val (.ref a1), .val (.int (0 : Int32))] [(.ref a1)])) (fun _ k => XS.aloadN X0.here hx rfl (hb hby d1_4) rfl rfl k) ?_
      obtain ⟨T3, X3, e3, st3⟩ := getF X0 hx hZ hown (host := "") (Or.inl (hw _ (List.mem_of_getElem? (i := 13) rfl))) Via.refl e0 Fro (g := (mkF m 5 #[.val (.ref a1), .val (.int (0 : Int32))] [(.ref a1)])) rfl rfl (hb hby d1_5)
      refine Goes.step (B := T3.setTop (mkF m 8 #[.val (.ref a1), .val (.int (0 : Int32))] [(.int (1 : Int32))])) st3 ?_
      refine Goes.step (B := T3.setTop (mkF m 18 #[.val (.ref a1), .val (.int (0 : Int32))] [])) (fun _ k => XS.ifYes X3.here hx rfl (pc0 := 8) (pc' := 18) rfl (hb hby d1_8) rfl ((if0 _ _).trans (feq (by decide)).2) (by decide) (by decide) k) ?_
      refine Goes.step (B := T3.setTop (mkF m 19 #[.val (.ref a1), .val (.int (0 : Int32))] [(.int (0 : Int32))])) (fun _ k => XS.iconst X3.here hx rfl (hb hby d1_18) k) ?_
      exact Goes.retI X3 hx e3 Bd.returns hlk (hb hby d1_19) (by decide) (by decide) (⟨rfl, N0, rfl⟩)
  · rcases hro with rfl | rfl
    · refine Goes.step (B := s₁.setTop (mkF m 1 #[.val (.ref a1), .val (.int (1 : Int32))] [(.int (1 : Int32))])) (fun _ k => XS.iloadN X0.here hx rfl (hb hby d1_0) rfl k) ?_
      refine Goes.step (B := s₁.setTop (mkF m 11 #[.val (.ref a1), .val (.int (1 : Int32))] [])) (fun _ k => XS.ifYes X0.here hx rfl (pc0 := 1) (pc' := 11) rfl (hb hby d1_1) rfl ((if0 _ _).trans (feq (by decide)).2) (by decide) (by decide) k) ?_
      refine Goes.step (B := s₁.setTop (mkF m 12 #[.val (.ref a1), .val (.int (1 : Int32))] [(.ref a1)])) (fun _ k => XS.aloadN X0.here hx rfl (hb hby d1_11) rfl rfl k) ?_
      obtain ⟨T4, X4, e4, st4⟩ := getF X0 hx hZ hown (host := "") (Or.inl (hw _ (List.mem_of_getElem? (i := 9) rfl))) Via.refl e0 Fd (g := (mkF m 12 #[.val (.ref a1), .val (.int (1 : Int32))] [(.ref a1)])) rfl rfl (hb hby d1_12)
      refine Goes.step (B := T4.setTop (mkF m 15 #[.val (.ref a1), .val (.int (1 : Int32))] [(.int df)])) st4 ?_
      refine Goes.step (B := T4.setTop (mkF m 19 #[.val (.ref a1), .val (.int (1 : Int32))] [(.int df)])) (fun _ k => XS.goto X4.here hx rfl (pc0 := 15) (pc' := 19) rfl (hb hby d1_15) (by decide) (by decide) k) ?_
      exact Goes.retI X4 hx e4 Bd.returns hlk (hb hby d1_19) (by decide) (by decide) (⟨rfl, N0, rfl⟩)
    · refine Goes.step (B := s₁.setTop (mkF m 1 #[.val (.ref a1), .val (.int (1 : Int32))] [(.int (1 : Int32))])) (fun _ k => XS.iloadN X0.here hx rfl (hb hby d1_0) rfl k) ?_
      refine Goes.step (B := s₁.setTop (mkF m 11 #[.val (.ref a1), .val (.int (1 : Int32))] [])) (fun _ k => XS.ifYes X0.here hx rfl (pc0 := 1) (pc' := 11) rfl (hb hby d1_1) rfl ((if0 _ _).trans (feq (by decide)).2) (by decide) (by decide) k) ?_
      refine Goes.step (B := s₁.setTop (mkF m 12 #[.val (.ref a1), .val (.int (1 : Int32))] [(.ref a1)])) (fun _ k => XS.aloadN X0.here hx rfl (hb hby d1_11) rfl rfl k) ?_
      obtain ⟨T5, X5, e5, st5⟩ := getF X0 hx hZ hown (host := "") (Or.inl (hw _ (List.mem_of_getElem? (i := 9) rfl))) Via.refl e0 Fd (g := (mkF m 12 #[.val (.ref a1), .val (.int (1 : Int32))] [(.ref a1)])) rfl rfl (hb hby d1_12)
      refine Goes.step (B := T5.setTop (mkF m 15 #[.val (.ref a1), .val (.int (1 : Int32))] [(.int df)])) st5 ?_
      refine Goes.step (B := T5.setTop (mkF m 19 #[.val (.ref a1), .val (.int (1 : Int32))] [(.int df)])) (fun _ k => XS.goto X5.here hx rfl (pc0 := 15) (pc' := 19) rfl (hb hby d1_15) (by decide) (by decide) k) ?_
      exact Goes.retI X5 hx e5 Bd.returns hlk (hb hby d1_19) (by decide) (by decide) (⟨rfl, N0, rfl⟩)
theorem pd_0 : parseMethodDescriptor "(Z)I" = some ⟨[.boolean], some .int⟩ := by decide +kernel
theorem pn_ArmorDeflectionPinLaw : plainName "com/example/roundkeeper/roundkeeper/rulesets/sealedorders/ArmorDeflectionPinLaw" = true := by first | (simp [plainName, overriddenIn]; done) | decide +kernel
theorem ef_rm0 (m : MethodId) (x0 : Int32) (x1 : Int32) : entryFrame m #[(.int x0), (.int x1)] maxLocals = mkF m 0 #[.val (.int x0), .val (.int x1), .unset, .unset, .unset, .unset, .unset] [] := by first | (simp [entryFrame, mkF, argsToLocals, Value.category, maxLocals]; done) | rfl
def Q0 (Z : State) (i0 : Int32) (i1 : Int32) (a_UNARMORED : Addr) (a_CHAIN_MAIL : Addr) (a_HALF_PLATE : Addr) (a_LEATHER : Addr) (a_FULL_PLATE : Addr) (a_SPLINT_MAIL : Addr) (h0 : Heap) (n0 : Nat) (v : Option Value) (h : Heap) (L : List Loc) : Prop := v = some (.int 1) ∧ Fr n0 L
set_option maxRecDepth 65536 in
set_option maxHeartbeats 40000000 in
theorem rm0 (l : Launch) (Z : State) (a0 : Array Value) (hw : ∀ d ∈ tables_1, d.before a0 Z = true) (ws : List Jvm.Cond) (i0 : Int32) (i1 : Int32) (a_UNARMORED : Addr) (a_CHAIN_MAIL : Addr) (a_HALF_PLATE : Addr) (a_LEATHER : Addr) (a_FULL_PLATE : Addr) (a_SPLINT_MAIL : Addr) (h0 : Heap) (n0 : Nat) (O0 : Old Z n0 h0) (FS : OwnSt Z a_UNARMORED a_CHAIN_MAIL a_HALF_PLATE a_LEATHER a_FULL_PLATE a_SPLINT_MAIL) :
    MetFree l x (head1 (Jvm.Cond.code x code maxLocals ret :: ws) room_1) (fun a U => a = #[(.int i0), (.int i1)] ∧ Z.Warmed39 U.vm ∧ U.heap = h0) (fun _ _ _ _ _ => True) (fun _ U o U' => ∃ v L, o = .returned v ∧ Q0 Z i0 i1 a_UNARMORED a_CHAIN_MAIL a_HALF_PLATE a_LEATHER a_FULL_PLATE a_SPLINT_MAIL h0 n0 v U'.heap L ∧ FrameEnd U o U' L room_1.cells room_1.slots) := by
  refine MetFree.of_bodySF (plainFor_of_name pn_ArmorDeflectionPinLaw) hisR ?_
  intro p e s m args below meth c s₁ Bd hml0 hP hK
  obtain ⟨rfl, hZ, hh⟩ := hP
  have hx := Bd.exec
  have hby := Bd.bytes
  have hlk : meth.locks = false := BodyLoose.notSynchronized Bd
  have hml : c.maxLocals = 7 := hml0
  have hown : s.vm.findClass "com/example/roundkeeper/roundkeeper/rulesets/sealedorders/ArmorDeflectionPinLaw" = some m.cls := findClass_of_methodNamed Bd.named
  have hnm := (name_of_methodNamed Bd.named Bd.method).1
  have X0 : Stand p l e room_1 s m #[(.int i0), (.int i1)] below meth c s₁ [] 0 0 := Stand.of_body Bd
  have e0 : s₁.heap = h0 := by rw [← hh, Bd.state]; rfl
  have N0 := Fr.nil n0
  show Goes p e below s (Q0 Z i0 i1 a_UNARMORED a_CHAIN_MAIL a_HALF_PLATE a_LEATHER a_FULL_PLATE a_SPLINT_MAIL h0 n0) room_1.cells room_1.slots (s₁.setTop (entryFrame m #[(.int i0), (.int i1)] maxLocals))
  refine Goes.enter (g' := (mkF m 0 #[.val (.int i0), .val (.int i1), .unset, .unset, .unset, .unset, .unset] [])) (ef_rm0 m i0 i1) ?_
  have FS0 := FS
  obtain ⟨S_UNARMORED, E_UNARMORED, F_UNARMORED_deflection, S_CHAIN_MAIL, E_CHAIN_MAIL, F_CHAIN_MAIL_deflection, F_CHAIN_MAIL_readyOnly, S_HALF_PLATE, E_HALF_PLATE, F_HALF_PLATE_readyOnly, F_HALF_PLATE_deflection, S_LEATHER, E_LEATHER, F_LEATHER_deflection, F_UNARMORED_readyOnly, S_FULL_PLATE, E_FULL_PLATE, F_FULL_PLATE_readyOnly, F_FULL_PLATE_deflection, S_SPLINT_MAIL, E_SPLINT_MAIL, F_SPLINT_MAIL_deflection, F_SPLINT_MAIL_readyOnly, F_LEATHER_readyOnly⟩ := FS0
  have ne_a_UNARMORED_a_CHAIN_MAIL : a_UNARMORED ≠ a_CHAIN_MAIL := Fld.ne F_UNARMORED_deflection F_CHAIN_MAIL_deflection (by decide)
  have ne_a_UNARMORED_a_HALF_PLATE : a_UNARMORED ≠ a_HALF_PLATE := Fld.ne F_UNARMORED_deflection F_HALF_PLATE_deflection (by decide)
  have ne_a_UNARMORED_a_LEATHER : a_UNARMORED ≠ a_LEATHER := Fld.ne F_UNARMORED_deflection F_LEATHER_deflection (by decide)
  have ne_a_UNARMORED_a_SPLINT_MAIL : a_UNARMORED ≠ a_SPLINT_MAIL := Fld.ne F_UNARMORED_deflection F_SPLINT_MAIL_deflection (by decide)
  have ne_a_CHAIN_MAIL_a_HALF_PLATE : a_CHAIN_MAIL ≠ a_HALF_PLATE := Fld.ne F_CHAIN_MAIL_deflection F_HALF_PLATE_deflection (by decide)
  have ne_a_CHAIN_MAIL_a_LEATHER : a_CHAIN_MAIL ≠ a_LEATHER := Fld.ne F_CHAIN_MAIL_deflection F_LEATHER_deflection (by decide)
  have ne_a_CHAIN_MAIL_a_FULL_PLATE : a_CHAIN_MAIL ≠ a_FULL_PLATE := Fld.ne F_CHAIN_MAIL_deflection F_FULL_PLATE_deflection (by decide)
  have ne_a_HALF_PLATE_a_FULL_PLATE : a_HALF_PLATE ≠ a_FULL_PLATE := Fld.ne F_HALF_PLATE_deflection F_FULL_PLATE_deflection (by decide)
  have ne_a_HALF_PLATE_a_SPLINT_MAIL : a_HALF_PLATE ≠ a_SPLINT_MAIL := Fld.ne F_HALF_PLATE_deflection F_SPLINT_MAIL_deflection (by decide)
  have ne_a_LEATHER_a_FULL_PLATE : a_LEATHER ≠ a_FULL_PLATE := Fld.ne F_LEATHER_deflection F_FULL_PLATE_deflection (by decide)
  have ne_a_LEATHER_a_SPLINT_MAIL : a_LEATHER ≠ a_SPLINT_MAIL := Fld.ne F_LEATHER_deflection F_SPLINT_MAIL_deflection (by decide)
  have ne_a_UNARMORED_a_FULL_PLATE : a_UNARMORED ≠ a_FULL_PLATE := Fld.ne F_UNARMORED_readyOnly F_FULL_PLATE_readyOnly (by decide)
  have ne_a_FULL_PLATE_a_SPLINT_MAIL : a_FULL_PLATE ≠ a_SPLINT_MAIL := Fld.ne F_FULL_PLATE_deflection F_SPLINT_MAIL_deflection (by decide)
  refine Goes.step (B := s₁.setTop (mkF m 1 #[.val (.int i0), .val (.int i1), .unset, .unset, .unset, .unset, .unset] [(.int i0)])) (fun _ k => XS.iloadN X0.here hx rfl (hb hby at_0) rfl k) ?_
  refine Goes.step (B := s₁.setTop (mkF m 3 #[.val (.int i0), .val (.int i1), .unset, .unset, .unset, .unset, .unset] [(.int (2147483647 : Int32)), (.int i0)])) (X0.ldcInt hx hown (mvT hZ (hw _ (List.mem_of_getElem? (i := 0) rfl))) (g := (mkF m 1 #[.val (.int i0), .val (.int i1), .unset, .unset, .unset, .unset, .unset] [(.int i0)])) rfl (hb hby at_1)) ?_
  refine Goes.step (B := s₁.setTop (mkF m 4 #[.val (.int i0), .val (.int i1), .unset, .unset, .unset, .unset, .unset] [(.int (i0 &&& (2147483647 : Int32)))])) (fun _ k => XS.iand X0.here hx rfl (hb hby at_3) rfl k) ?_
  refine Goes.step (B := s₁.setTop (mkF m 6 #[.val (.int i0), .val (.int i1), .unset, .unset, .unset, .unset, .unset] [(.int (6 : Int32)), (.int (i0 &&& (2147483647 : Int32)))])) (fun _ k => XS.bipush X0.here hx rfl (hb hby at_4) k) ?_
  refine Goes.step (B := s₁.setTop (mkF m 7 #[.val (.int i0), .val (.int i1), .unset, .unset, .unset, .unset, .unset] [(.int ((i0 &&& (2147483647 : Int32)) % (6 : Int32)))])) (fun _ k => iremM X0 hx rfl (hb hby at_6) rfl (by decide) k) ?_
  obtain ⟨iv, hiv⟩ : ∃ z, z = ((i0 &&& (2147483647 : Int32)) % (6 : Int32)) := ⟨_, rfl⟩
  rw [← hiv]
  rcases own_m6 hiv with rfl | rfl | rfl | rfl | rfl | rfl
  · refine Goes.step (B := s₁.setTop (mkF m 8 #[.val (.int i0), .val (.int i1), .val (.int (0 : Int32)), .unset, .unset, .unset, .unset] [])) (fun _ k => XS.istoreN X0.here hx rfl (hb hby at_7) rfl (l' := #[.val (.int i0), .val (.int i1), .val (.int (0 : Int32)), .unset, .unset, .unset, .unset]) rfl k) ?_
    refine Goes.step (B := s₁.setTop (mkF m 9 #[.val (.int i0), .val (.int i1), .val (.int (0 : Int32)), .unset, .unset, .unset, .unset] [(.int i1)])) (fun _ k => XS.iloadN X0.here hx rfl (hb hby at_8) rfl k) ?_
    refine Goes.step (B := s₁.setTop (mkF m 10 #[.val (.int i0), .val (.int i1), .val (.int (0 : Int32)), .unset, .unset, .unset, .unset] [(.int (1 : Int32)), (.int i1)])) (fun _ k => XS.iconst X0.here hx rfl (hb hby at_9) k) ?_
    refine Goes.step (B := s₁.setTop (mkF m 11 #[.val (.int i0), .val (.int i1), .val (.int (0 : Int32)), .unset, .unset, .unset, .unset] [(.int (i1 &&& (1 : Int32)))])) (fun _ k => XS.iand X0.here hx rfl (hb hby at_10) rfl k) ?_
    obtain ⟨bv, hbv⟩ : ∃ z, z = (i1 &&& (1 : Int32)) := ⟨_, rfl⟩
    rw [← hbv]
    rcases own_bit hbv with rfl | rfl
    · refine Goes.step (B := s₁.setTop (mkF m 18 #[.val (.int i0), .val (.int i1), .val (.int (0 : Int32)), .unset, .unset, .unset, .unset] [])) (fun _ k => XS.ifYes X0.here hx rfl (pc0 := 11) (pc' := 18) rfl (hb hby at_11) rfl ((if0 _ _).trans (teq (by decide)).1) (by decide) (by decide) k) ?_
      refine Goes.step (B := s₁.setTop (mkF m 19 #[.val (.int i0), .val (.int i1), .val (.int (0 : Int32)), .unset, .unset, .unset, .unset] [(.int (0 : Int32))])) (fun _ k => XS.iconst X0.here hx rfl (hb hby at_18) k) ?_
      refine Goes.step (B := s₁.setTop (mkF m 20 #[.val (.int i0), .val (.int i1), .val (.int (0 : Int32)), .val (.int (0 : Int32)), .unset, .unset, .unset] [])) (fun _ k => XS.istoreN X0.here hx rfl (hb hby at_19) rfl (l' := #[.val (.int i0), .val (.int i1), .val (.int (0 : Int32)), .val (.int (0 : Int32)), .unset, .unset, .unset]) rfl k) ?_
      refine Goes.step (B := s₁.setTop (mkF m 21 #[.val (.int i0), .val (.int i1), .val (.int (0 : Int32)), .val (.int (0 : Int32)), .unset, .unset, .unset] [(.int (0 : Int32))])) (fun _ k => XS.iloadN X0.here hx rfl (hb hby at_20) rfl k) ?_
      refine Goes.step (B := s₁.setTop (mkF m 24 #[.val (.int i0), .val (.int i1), .val (.int (0 : Int32)), .val (.int (0 : Int32)), .unset, .unset, .unset] [])) (fun _ k => XS.ifNo X0.here hx rfl (hb hby at_21) rfl ((if0 _ _).trans (teq (by decide)).2) k) ?_
      have f1 := S_UNARMORED.ext O0.2
      obtain ⟨T2, X2, e2, st2⟩ := getS2 X0 hx hZ hown (host := "") (Or.inl (hw _ (List.mem_of_getElem? (i := 1) rfl))) Via.refl e0 f1 (g := (mkF m 24 #[.val (.int i0), .val (.int i1), .val (.int (0 : Int32)), .val (.int (0 : Int32)), .unset, .unset, .unset] [])) rfl (hb hby at_24)
      refine Goes.step (B := T2.setTop (mkF m 27 #[.val (.int i0), .val (.int i1), .val (.int (0 : Int32)), .val (.int (0 : Int32)), .unset, .unset, .unset] [(.ref a_UNARMORED)])) st2 ?_
      refine Goes.step (B := T2.setTop (mkF m 29 #[.val (.int i0), .val (.int i1), .val (.int (0 : Int32)), .val (.int (0 : Int32)), .val (.ref a_UNARMORED), .unset, .unset] [])) (fun _ k => XS.astore X2.here hx rfl (hb hby at_27) rfl rfl (l' := #[.val (.int i0), .val (.int i1), .val (.int (0 : Int32)), .val (.int (0 : Int32)), .val (.ref a_UNARMORED), .unset, .unset]) rfl k) ?_
      refine Goes.step (B := T2.setTop (mkF m 30 #[.val (.int i0), .val (.int i1), .val (.int (0 : Int32)), .val (.int (0 : Int32)), .val (.ref a_UNARMORED), .unset, .unset] [(.int (3 : Int32))])) (fun _ k => XS.iconst X2.here hx rfl (hb hby at_29) k) ?_
      refine Goes.step (B := T2.setTop (mkF m 32 #[.val (.int i0), .val (.int i1), .val (.int (0 : Int32)), .val (.int (0 : Int32)), .val (.ref a_UNARMORED), .val (.int (3 : Int32)), .unset] [])) (fun _ k => XS.istore X2.here hx rfl (hb hby at_30) rfl (l' := #[.val (.int i0), .val (.int i1), .val (.int (0 : Int32)), .val (.int (0 : Int32)), .val (.ref a_UNARMORED), .val (.int (3 : Int32)), .unset]) rfl k) ?_
      refine Goes.step (B := T2.setTop (mkF m 107 #[.val (.int i0), .val (.int i1), .val (.int (0 : Int32)), .val (.int (0 : Int32)), .val (.ref a_UNARMORED), .val (.int (3 : Int32)), .unset] [])) (fun _ k => XS.goto X2.here hx rfl (pc0 := 32) (pc' := 107) rfl (hb hby at_32) (by decide) (by decide) k) ?_
      refine Goes.step (B := T2.setTop (mkF m 108 #[.val (.int i0), .val (.int i1), .val (.int (0 : Int32)), .val (.int (0 : Int32)), .val (.ref a_UNARMORED), .val (.int (3 : Int32)), .unset] [(.int (0 : Int32))])) (fun _ k => XS.iloadN X2.here hx rfl (hb hby at_107) rfl k) ?_
      refine Goes.step (B := T2.setTop (mkF m 111 #[.val (.int i0), .val (.int i1), .val (.int (0 : Int32)), .val (.int (0 : Int32)), .val (.ref a_UNARMORED), .val (.int (3 : Int32)), .unset] [])) (fun _ k => XS.ifNo X2.here hx rfl (hb hby at_108) rfl ((if0 _ _).trans (teq (by decide)).2) k) ?_
      refine Goes.step (B := T2.setTop (mkF m 112 #[.val (.int i0), .val (.int i1), .val (.int (0 : Int32)), .val (.int (0 : Int32)), .val (.ref a_UNARMORED), .val (.int (3 : Int32)), .unset] [(.int (0 : Int32))])) (fun _ k => XS.iloadN X2.here hx rfl (hb hby at_111) rfl k) ?_
      refine Goes.step (B := T2.setTop (mkF m 115 #[.val (.int i0), .val (.int i1), .val (.int (0 : Int32)), .val (.int (0 : Int32)), .val (.ref a_UNARMORED), .val (.int (3 : Int32)), .unset] [])) (fun _ k => XS.ifNo X2.here hx rfl (hb hby at_112) rfl ((if0 _ _).trans (teq (by decide)).2) k) ?_
      refine Goes.step (B := T2.setTop (mkF m 116 #[.val (.int i0), .val (.int i1), .val (.int (0 : Int32)), .val (.int (0 : Int32)), .val (.ref a_UNARMORED), .val (.int (3 : Int32)), .unset] [(.int (0 : Int32))])) (fun _ k => XS.iconst X2.here hx rfl (hb hby at_115) k) ?_
      refine Goes.step (B := T2.setTop (mkF m 118 #[.val (.int i0), .val (.int i1), .val (.int (0 : Int32)), .val (.int (0 : Int32)), .val (.ref a_UNARMORED), .val (.int (3 : Int32)), .val (.int (0 : Int32))] [])) (fun _ k => XS.istore X2.here hx rfl (hb hby at_116) rfl (l' := #[.val (.int i0), .val (.int i1), .val (.int (0 : Int32)), .val (.int (0 : Int32)), .val (.ref a_UNARMORED), .val (.int (3 : Int32)), .val (.int (0 : Int32))]) rfl k) ?_
      refine Goes.step (B := T2.setTop (mkF m 125 #[.val (.int i0), .val (.int i1), .val (.int (0 : Int32)), .val (.int (0 : Int32)), .val (.ref a_UNARMORED), .val (.int (3 : Int32)), .val (.int (0 : Int32))] [])) (fun _ k => XS.goto X2.here hx rfl (pc0 := 118) (pc' := 125) rfl (hb hby at_118) (by decide) (by decide) k) ?_
      refine Goes.step (B := T2.setTop (mkF m 127 #[.val (.int i0), .val (.int i1), .val (.int (0 : Int32)), .val (.int (0 : Int32)), .val (.ref a_UNARMORED), .val (.int (3 : Int32)), .val (.int (0 : Int32))] [(.ref a_UNARMORED)])) (fun _ k => XS.aload X2.here hx rfl (hb hby at_125) rfl rfl k) ?_
      refine Goes.step (B := T2.setTop (mkF m 128 #[.val (.int i0), .val (.int i1), .val (.int (0 : Int32)), .val (.int (0 : Int32)), .val (.ref a_UNARMORED), .val (.int (3 : Int32)), .val (.int (0 : Int32))] [(.int (0 : Int32)), (.ref a_UNARMORED)])) (fun _ k => XS.iloadN X2.here hx rfl (hb hby at_127) rfl k) ?_
      have f4 := F_UNARMORED_readyOnly.ext O0.2
      have f5 := F_UNARMORED_deflection.ext O0.2
      have f6 := E_UNARMORED.ext O0.2
      obtain ⟨cq3, kq3, qa3, qb3, qc3⟩ := isOf hZ e2 f6
      obtain ⟨_, _, ⟨T3, L3, k3, n3⟩, -, X3, ⟨Lc3, hQ3, l3, y3, z3⟩, st3⟩ := X2.virtualBack hx (y := (⟨"com/example/roundkeeper/roundkeeper/rulesets/sealedorders/Armor", "deflection", "(Z)I"⟩ : MethodName)) (z := (⟨"com/example/roundkeeper/roundkeeper/rulesets/sealedorders/Armor", "deflection", "(Z)I"⟩ : MethodName)) hown (mvT hZ (hw _ (List.mem_of_getElem? (i := 4) rfl))) (mvT hZ (hw _ (List.mem_of_getElem? (i := 5) rfl))) (notFace_of_selects (args := #[]) (mvT hZ (hw _ (List.mem_of_getElem? (i := 7) rfl)))) (mvT hZ (hw _ (List.mem_of_getElem? (i := 7) rfl))) (mvT hZ (hw _ (List.mem_of_getElem? (i := 6) rfl))) (by decide) (backOf (W := 0) (rm1 l Z a0 hw [] a_UNARMORED (0 : Int32) (1 : Int32) (3 : Int32) h0 n0 O0 (by decide) (by decide) f4 f5) hZ (hw _ (List.mem_of_getElem? (i := 8) rfl)) (hw _ (List.mem_of_getElem? (i := 2) rfl)) (by decide) (by decide)) qa3 qc3 (g := (mkF m 128 #[.val (.int i0), .val (.int i1), .val (.int (0 : Int32)), .val (.int (0 : Int32)), .val (.ref a_UNARMORED), .val (.int (3 : Int32)), .val (.int (0 : Int32))] [(.int (0 : Int32)), (.ref a_UNARMORED)])) rfl (by rw [hml]; rfl) (Steps.refl _) (argsL := [(.int (0 : Int32))]) (rest := []) (lenOf pd_0 rfl) rfl (by show 2 * 0 + _ ≤ _; exact Nat.le_of_eq rfl) (hb hby at_128) (fun _ _ => ⟨rfl, e2, (by decide : 0 + 0 ≤ _), (by decide : 0 + 0 ≤ _)⟩)
      dsimp only [Pt.U, Pt.locs, Pt.cells, Pt.slots] at X3 l3 y3 z3 st3 hQ3
      subst l3 y3 z3
      obtain ⟨rfl, Nq3, eh3⟩ := hQ3
      have N3 := Fr.app N0 Nq3
      refine Goes.via (B := T3.setTop (mkF m 131 #[.val (.int i0), .val (.int i1), .val (.int (0 : Int32)), .val (.int (0 : Int32)), .val (.ref a_UNARMORED), .val (.int (3 : Int32)), .val (.int (0 : Int32))] [(.int (own_def (0 : Int32) (1 : Int32) (3 : Int32)))])) st3 ?_
      rw [(by decide : (own_def (0 : Int32) (1 : Int32) (3 : Int32)) = (0 : Int32))]
      refine Goes.step (B := T3.setTop (mkF m 133 #[.val (.int i0), .val (.int i1), .val (.int (0 : Int32)), .val (.int (0 : Int32)), .val (.ref a_UNARMORED), .val (.int (3 : Int32)), .val (.int (0 : Int32))] [(.int (0 : Int32)), (.int (0 : Int32))])) (fun _ k => XS.iload X3.here hx rfl (hb hby at_131) rfl k) ?_
      refine Goes.step (B := T3.setTop (mkF m 136 #[.val (.int i0), .val (.int i1), .val (.int (0 : Int32)), .val (.int (0 : Int32)), .val (.ref a_UNARMORED), .val (.int (3 : Int32)), .val (.int (0 : Int32))] [])) (fun _ k => XS.icmpNo X3.here hx rfl (hb hby at_133) rfl (teq (by decide)).2 k) ?_
      refine Goes.step (B := T3.setTop (mkF m 137 #[.val (.int i0), .val (.int i1), .val (.int (0 : Int32)), .val (.int (0 : Int32)), .val (.ref a_UNARMORED), .val (.int (3 : Int32)), .val (.int (0 : Int32))] [(.int (1 : Int32))])) (fun _ k => XS.iconst X3.here hx rfl (hb hby at_136) k) ?_
      refine Goes.step (B := T3.setTop (mkF m 141 #[.val (.int i0), .val (.int i1), .val (.int (0 : Int32)), .val (.int (0 : Int32)), .val (.ref a_UNARMORED), .val (.int (3 : Int32)), .val (.int (0 : Int32))] [(.int (1 : Int32))])) (fun _ k => XS.goto X3.here hx rfl (pc0 := 137) (pc' := 141) rfl (hb hby at_137) (by decide) (by decide) k) ?_
      exact Goes.retN X3 hx eh3 (t := .boolean) Bd.returns (by simp) hlk (hb hby at_141) (by decide) (by decide) (⟨rfl, N3⟩)
    · refine Goes.step (B := s₁.setTop (mkF m 14 #[.val (.int i0), .val (.int i1), .val (.int (0 : Int32)), .unset, .unset, .unset, .unset] [])) (fun _ k => XS.ifNo X0.here hx rfl (hb hby at_11) rfl ((if0 _ _).trans (feq (by decide)).1) k) ?_
      refine Goes.step (B := s₁.setTop (mkF m 15 #[.val (.int i0), .val (.int i1), .val (.int (0 : Int32)), .unset, .unset, .unset, .unset] [(.int (1 : Int32))])) (fun _ k => XS.iconst X0.here hx rfl (hb hby at_14) k) ?_
      refine Goes.step (B := s₁.setTop (mkF m 19 #[.val (.int i0), .val (.int i1), .val (.int (0 : Int32)), .unset, .unset, .unset, .unset] [(.int (1 : Int32))])) (fun _ k => XS.goto X0.here hx rfl (pc0 := 15) (pc' := 19) rfl (hb hby at_15) (by decide) (by decide) k) ?_
      refine Goes.step (B := s₁.setTop (mkF m 20 #[.val (.int i0), .val (.int i1), .val (.int (0 : Int32)), .val (.int (1 : Int32)), .unset, .unset, .unset] [])) (fun _ k => XS.istoreN X0.here hx rfl (hb hby at_19) rfl (l' := #[.val (.int i0), .val (.int i1), .val (.int (0 : Int32)), .val (.int (1 : Int32)), .unset, .unset, .unset]) rfl k) ?_
      refine Goes.step (B := s₁.setTop (mkF m 21 #[.val (.int i0), .val (.int i1), .val (.int (0 : Int32)), .val (.int (1 : Int32)), .unset, .unset, .unset] [(.int (0 : Int32))])) (fun _ k => XS.iloadN X0.here hx rfl (hb hby at_20) rfl k) ?_
      refine Goes.step (B := s₁.setTop (mkF m 24 #[.val (.int i0), .val (.int i1), .val (.int (0 : Int32)), .val (.int (1 : Int32)), .unset, .unset, .unset] [])) (fun _ k => XS.ifNo X0.here hx rfl (hb hby at_21) rfl ((if0 _ _).trans (teq (by decide)).2) k) ?_
      have f7 := S_UNARMORED.ext O0.2
      obtain ⟨T8, X8, e8, st8⟩ := getS2 X0 hx hZ hown (host := "") (Or.inl (hw _ (List.mem_of_getElem? (i := 1) rfl))) Via.refl e0 f7 (g := (mkF m 24 #[.val (.int i0), .val (.int i1), .val (.int (0 : Int32)), .val (.int (1 : Int32)), .unset, .unset, .unset] [])) rfl (hb hby at_24)
      refine Goes.step (B := T8.setTop (mkF m 27 #[.val (.int i0), .val (.int i1), .val (.int (0 : Int32)), .val (.int (1 : Int32)), .unset, .unset, .unset] [(.ref a_UNARMORED)])) st8 ?_
      refine Goes.step (B := T8.setTop (mkF m 29 #[.val (.int i0), .val (.int i1), .val (.int (0 : Int32)), .val (.int (1 : Int32)), .val (.ref a_UNARMORED), .unset, .unset] [])) (fun _ k => XS.astore X8.here hx rfl (hb hby at_27) rfl rfl (l' := #[.val (.int i0), .val (.int i1), .val (.int (0 : Int32)), .val (.int (1 : Int32)), .val (.ref a_UNARMORED), .unset, .unset]) rfl k) ?_
      refine Goes.step (B := T8.setTop (mkF m 30 #[.val (.int i0), .val (.int i1), .val (.int (0 : Int32)), .val (.int (1 : Int32)), .val (.ref a_UNARMORED), .unset, .unset] [(.int (3 : Int32))])) (fun _ k => XS.iconst X8.here hx rfl (hb hby at_29) k) ?_
      refine Goes.step (B := T8.setTop (mkF m 32 #[.val (.int i0), .val (.int i1), .val (.int (0 : Int32)), .val (.int (1 : Int32)), .val (.ref a_UNARMORED), .val (.int (3 : Int32)), .unset] [])) (fun _ k => XS.istore X8.here hx rfl (hb hby at_30) rfl (l' := #[.val (.int i0), .val (.int i1), .val (.int (0 : Int32)), .val (.int (1 : Int32)), .val (.ref a_UNARMORED), .val (.int (3 : Int32)), .unset]) rfl k) ?_
      refine Goes.step (B := T8.setTop (mkF m 107 #[.val (.int i0), .val (.int i1), .val (.int (0 : Int32)), .val (.int (1 : Int32)), .val (.ref a_UNARMORED), .val (.int (3 : Int32)), .unset] [])) (fun _ k => XS.goto X8.here hx rfl (pc0 := 32) (pc' := 107) rfl (hb hby at_32) (by decide) (by decide) k) ?_
      refine Goes.step (B := T8.setTop (mkF m 108 #[.val (.int i0), .val (.int i1), .val (.int (0 : Int32)), .val (.int (1 : Int32)), .val (.ref a_UNARMORED), .val (.int (3 : Int32)), .unset] [(.int (0 : Int32))])) (fun _ k => XS.iloadN X8.here hx rfl (hb hby at_107) rfl k) ?_
      refine Goes.step (B := T8.setTop (mkF m 111 #[.val (.int i0), .val (.int i1), .val (.int (0 : Int32)), .val (.int (1 : Int32)), .val (.ref a_UNARMORED), .val (.int (3 : Int32)), .unset] [])) (fun _ k => XS.ifNo X8.here hx rfl (hb hby at_108) rfl ((if0 _ _).trans (teq (by decide)).2) k) ?_
      refine Goes.step (B := T8.setTop (mkF m 112 #[.val (.int i0), .val (.int i1), .val (.int (0 : Int32)), .val (.int (1 : Int32)), .val (.ref a_UNARMORED), .val (.int (3 : Int32)), .unset] [(.int (1 : Int32))])) (fun _ k => XS.iloadN X8.here hx rfl (hb hby at_111) rfl k) ?_
      refine Goes.step (B := T8.setTop (mkF m 121 #[.val (.int i0), .val (.int i1), .val (.int (0 : Int32)), .val (.int (1 : Int32)), .val (.ref a_UNARMORED), .val (.int (3 : Int32)), .unset] [])) (fun _ k => XS.ifYes X8.here hx rfl (pc0 := 112) (pc' := 121) rfl (hb hby at_112) rfl ((if0 _ _).trans (feq (by decide)).2) (by decide) (by decide) k) ?_
      refine Goes.step (B := T8.setTop (mkF m 123 #[.val (.int i0), .val (.int i1), .val (.int (0 : Int32)), .val (.int (1 : Int32)), .val (.ref a_UNARMORED), .val (.int (3 : Int32)), .unset] [(.int (3 : Int32))])) (fun _ k => XS.iload X8.here hx rfl (hb hby at_121) rfl k) ?_
      refine Goes.step (B := T8.setTop (mkF m 125 #[.val (.int i0), .val (.int i1), .val (.int (0 : Int32)), .val (.int (1 : Int32)), .val (.ref a_UNARMORED), .val (.int (3 : Int32)), .val (.int (3 : Int32))] [])) (fun _ k => XS.istore X8.here hx rfl (hb hby at_123) rfl (l' := #[.val (.int i0), .val (.int i1), .val (.int (0 : Int32)), .val (.int (1 : Int32)), .val (.ref a_UNARMORED), .val (.int (3 : Int32)), .val (.int (3 : Int32))]) rfl k) ?_
      refine Goes.step (B := T8.setTop (mkF m 127 #[.val (.int i0), .val (.int i1), .val (.int (0 : Int32)), .val (.int (1 : Int32)), .val (.ref a_UNARMORED), .val (.int (3 : Int32)), .val (.int (3 : Int32))] [(.ref a_UNARMORED)])) (fun _ k => XS.aload X8.here hx rfl (hb hby at_125) rfl rfl k) ?_
      refine Goes.step (B := T8.setTop (mkF m 128 #[.val (.int i0), .val (.int i1), .val (.int (0 : Int32)), .val (.int (1 : Int32)), .val (.ref a_UNARMORED), .val (.int (3 : Int32)), .val (.int (3 : Int32))] [(.int (1 : Int32)), (.ref a_UNARMORED)])) (fun _ k => XS.iloadN X8.here hx rfl (hb hby at_127) rfl k) ?_
      have f10 := F_UNARMORED_readyOnly.ext O0.2
      have f11 := F_UNARMORED_deflection.ext O0.2
      have f12 := E_UNARMORED.ext O0.2
      obtain ⟨cq9, kq9, qa9, qb9, qc9⟩ := isOf hZ e8 f12
      obtain ⟨_, _, ⟨T9, L9, k9, n9⟩, -, X9, ⟨Lc9, hQ9, l9, y9, z9⟩, st9⟩ := X8.virtualBack hx (y := (⟨"com/example/roundkeeper/roundkeeper/rulesets/sealedorders/Armor", "deflection", "(Z)I"⟩ : MethodName)) (z := (⟨"com/example/roundkeeper/roundkeeper/rulesets/sealedorders/Armor", "deflection", "(Z)I"⟩ : MethodName)) hown (mvT hZ (hw _ (List.mem_of_getElem? (i := 4) rfl))) (mvT hZ (hw _ (List.mem_of_getElem? (i := 5) rfl))) (notFace_of_selects (args := #[]) (mvT hZ (hw _ (List.mem_of_getElem? (i := 7) rfl)))) (mvT hZ (hw _ (List.mem_of_getElem? (i := 7) rfl))) (mvT hZ (hw _ (List.mem_of_getElem? (i := 6) rfl))) (by decide) (backOf (W := 0) (rm1 l Z a0 hw [] a_UNARMORED (1 : Int32) (1 : Int32) (3 : Int32) h0 n0 O0 (by decide) (by decide) f10 f11) hZ (hw _ (List.mem_of_getElem? (i := 8) rfl)) (hw _ (List.mem_of_getElem? (i := 2) rfl)) (by decide) (by decide)) qa9 qc9 (g := (mkF m 128 #[.val (.int i0), .val (.int i1), .val (.int (0 : Int32)), .val (.int (1 : Int32)), .val (.ref a_UNARMORED), .val (.int (3 : Int32)), .val (.int (3 : Int32))] [(.int (1 : Int32)), (.ref a_UNARMORED)])) rfl (by rw [hml]; rfl) (Steps.refl _) (argsL := [(.int (1 : Int32))]) (rest := []) (lenOf pd_0 rfl) rfl (by show 2 * 0 + _ ≤ _; exact Nat.le_of_eq rfl) (hb hby at_128) (fun _ _ => ⟨rfl, e8, (by decide : 0 + 0 ≤ _), (by decide : 0 + 0 ≤ _)⟩)
      dsimp only [Pt.U, Pt.locs, Pt.cells, Pt.slots] at X9 l9 y9 z9 st9 hQ9
      subst l9 y9 z9
      obtain ⟨rfl, Nq9, eh9⟩ := hQ9
      have N9 := Fr.app N0 Nq9
      refine Goes.via (B := T9.setTop (mkF m 131 #[.val (.int i0), .val (.int i1), .val (.int (0 : Int32)), .val (.int (1 : Int32)), .val (.ref a_UNARMORED), .val (.int (3 : Int32)), .val (.int (3 : Int32))] [(.int (own_def (1 : Int32) (1 : Int32) (3 : Int32)))])) st9 ?_
      rw [(by decide : (own_def (1 : Int32) (1 : Int32) (3 : Int32)) = (3 : Int32))]
      refine Goes.step (B := T9.setTop (mkF m 133 #[.val (.int i0), .val (.int i1), .val (.int (0 : Int32)), .val (.int (1 : Int32)), .val (.ref a_UNARMORED), .val (.int (3 : Int32)), .val (.int (3 : Int32))] [(.int (3 : Int32)), (.int (3 : Int32))])) (fun _ k => XS.iload X9.here hx rfl (hb hby at_131) rfl k) ?_
      refine Goes.step (B := T9.setTop (mkF m 136 #[.val (.int i0), .val (.int i1), .val (.int (0 : Int32)), .val (.int (1 : Int32)), .val (.ref a_UNARMORED), .val (.int (3 : Int32)), .val (.int (3 : Int32))] [])) (fun _ k => XS.icmpNo X9.here hx rfl (hb hby at_133) rfl (teq (by decide)).2 k) ?_
      refine Goes.step (B := T9.setTop (mkF m 137 #[.val (.int i0), .val (.int i1), .val (.int (0 : Int32)), .val (.int (1 : Int32)), .val (.ref a_UNARMORED), .val (.int (3 : Int32)), .val (.int (3 : Int32))] [(.int (1 : Int32))])) (fun _ k => XS.iconst X9.here hx rfl (hb hby at_136) k) ?_
      refine Goes.step (B := T9.setTop (mkF m 141 #[.val (.int i0), .val (.int i1), .val (.int (0 : Int32)), .val (.int (1 : Int32)), .val (.ref a_UNARMORED), .val (.int (3 : Int32)), .val (.int (3 : Int32))] [(.int (1 : Int32))])) (fun _ k => XS.goto X9.here hx rfl (pc0 := 137) (pc' := 141) rfl (hb hby at_137) (by decide) (by decide) k) ?_
      exact Goes.retN X9 hx eh9 (t := .boolean) Bd.returns (by simp) hlk (hb hby at_141) (by decide) (by decide) (⟨rfl, N9⟩)
  · refine Goes.step (B := s₁.setTop (mkF m 8 #[.val (.int i0), .val (.int i1), .val (.int (1 : Int32)), .unset, .unset, .unset, .unset] [])) (fun _ k => XS.istoreN X0.here hx rfl (hb hby at_7) rfl (l' := #[.val (.int i0), .val (.int i1), .val (.int (1 : Int32)), .unset, .unset, .unset, .unset]) rfl k) ?_
    refine Goes.step (B := s₁.setTop (mkF m 9 #[.val (.int i0), .val (.int i1), .val (.int (1 : Int32)), .unset, .unset, .unset, .unset] [(.int i1)])) (fun _ k => XS.iloadN X0.here hx rfl (hb hby at_8) rfl k) ?_
    refine Goes.step (B := s₁.setTop (mkF m 10 #[.val (.int i0), .val (.int i1), .val (.int (1 : Int32)), .unset, .unset, .unset, .unset] [(.int (1 : Int32)), (.int i1)])) (fun _ k => XS.iconst X0.here hx rfl (hb hby at_9) k) ?_
    refine Goes.step (B := s₁.setTop (mkF m 11 #[.val (.int i0), .val (.int i1), .val (.int (1 : Int32)), .unset, .unset, .unset, .unset] [(.int (i1 &&& (1 : Int32)))])) (fun _ k => XS.iand X0.here hx rfl (hb hby at_10) rfl k) ?_
    obtain ⟨bv, hbv⟩ : ∃ z, z = (i1 &&& (1 : Int32)) := ⟨_, rfl⟩
    rw [← hbv]
    rcases own_bit hbv with rfl | rfl
    · refine Goes.step (B := s₁.setTop (mkF m 18 #[.val (.int i0), .val (.int i1), .val (.int (1 : Int32)), .unset, .unset, .unset, .unset] [])) (fun _ k => XS.ifYes X0.here hx rfl (pc0 := 11) (pc' := 18) rfl (hb hby at_11) rfl ((if0 _ _).trans (teq (by decide)).1) (by decide) (by decide) k) ?_
      refine Goes.step (B := s₁.setTop (mkF m 19 #[.val (.int i0), .val (.int i1), .val (.int (1 : Int32)), .unset, .unset, .unset, .unset] [(.int (0 : Int32))])) (fun _ k => XS.iconst X0.here hx rfl (hb hby at_18) k) ?_
      refine Goes.step (B := s₁.setTop (mkF m 20 #[.val (.int i0), .val (.int i1), .val (.int (1 : Int32)), .val (.int (0 : Int32)), .unset, .unset, .unset] [])) (fun _ k => XS.istoreN X0.here hx rfl (hb hby at_19) rfl (l' := #[.val (.int i0), .val (.int i1), .val (.int (1 : Int32)), .val (.int (0 : Int32)), .unset, .unset, .unset]) rfl k) ?_
      refine Goes.step (B := s₁.setTop (mkF m 21 #[.val (.int i0), .val (.int i1), .val (.int (1 : Int32)), .val (.int (0 : Int32)), .unset, .unset, .unset] [(.int (1 : Int32))])) (fun _ k => XS.iloadN X0.here hx rfl (hb hby at_20) rfl k) ?_
      refine Goes.step (B := s₁.setTop (mkF m 35 #[.val (.int i0), .val (.int i1), .val (.int (1 : Int32)), .val (.int (0 : Int32)), .unset, .unset, .unset] [])) (fun _ k => XS.ifYes X0.here hx rfl (pc0 := 21) (pc' := 35) rfl (hb hby at_21) rfl ((if0 _ _).trans (feq (by decide)).2) (by decide) (by decide) k) ?_
      refine Goes.step (B := s₁.setTop (mkF m 36 #[.val (.int i0), .val (.int i1), .val (.int (1 : Int32)), .val (.int (0 : Int32)), .unset, .unset, .unset] [(.int (1 : Int32))])) (fun _ k => XS.iloadN X0.here hx rfl (hb hby at_35) rfl k) ?_
      refine Goes.step (B := s₁.setTop (mkF m 37 #[.val (.int i0), .val (.int i1), .val (.int (1 : Int32)), .val (.int (0 : Int32)), .unset, .unset, .unset] [(.int (1 : Int32)), (.int (1 : Int32))])) (fun _ k => XS.iconst X0.here hx rfl (hb hby at_36) k) ?_
      refine Goes.step (B := s₁.setTop (mkF m 40 #[.val (.int i0), .val (.int i1), .val (.int (1 : Int32)), .val (.int (0 : Int32)), .unset, .unset, .unset] [])) (fun _ k => XS.icmpNo X0.here hx rfl (hb hby at_37) rfl (teq (by decide)).2 k) ?_
      have f13 := S_LEATHER.ext O0.2
      obtain ⟨T14, X14, e14, st14⟩ := getS2 X0 hx hZ hown (host := "") (Or.inl (hw _ (List.mem_of_getElem? (i := 17) rfl))) Via.refl e0 f13 (g := (mkF m 40 #[.val (.int i0), .val (.int i1), .val (.int (1 : Int32)), .val (.int (0 : Int32)), .unset, .unset, .unset] [])) rfl (hb hby at_40)
      refine Goes.step (B := T14.setTop (mkF m 43 #[.val (.int i0), .val (.int i1), .val (.int (1 : Int32)), .val (.int (0 : Int32)), .unset, .unset, .unset] [(.ref a_LEATHER)])) st14 ?_
      refine Goes.step (B := T14.setTop (mkF m 45 #[.val (.int i0), .val (.int i1), .val (.int (1 : Int32)), .val (.int (0 : Int32)), .val (.ref a_LEATHER), .unset, .unset] [])) (fun _ k => XS.astore X14.here hx rfl (hb hby at_43) rfl rfl (l' := #[.val (.int i0), .val (.int i1), .val (.int (1 : Int32)), .val (.int (0 : Int32)), .val (.ref a_LEATHER), .unset, .unset]) rfl k) ?_
      refine Goes.step (B := T14.setTop (mkF m 46 #[.val (.int i0), .val (.int i1), .val (.int (1 : Int32)), .val (.int (0 : Int32)), .val (.ref a_LEATHER), .unset, .unset] [(.int (2 : Int32))])) (fun _ k => XS.iconst X14.here hx rfl (hb hby at_45) k) ?_
      refine Goes.step (B := T14.setTop (mkF m 48 #[.val (.int i0), .val (.int i1), .val (.int (1 : Int32)), .val (.int (0 : Int32)), .val (.ref a_LEATHER), .val (.int (2 : Int32)), .unset] [])) (fun _ k => XS.istore X14.here hx rfl (hb hby at_46) rfl (l' := #[.val (.int i0), .val (.int i1), .val (.int (1 : Int32)), .val (.int (0 : Int32)), .val (.ref a_LEATHER), .val (.int (2 : Int32)), .unset]) rfl k) ?_
      refine Goes.step (B := T14.setTop (mkF m 107 #[.val (.int i0), .val (.int i1), .val (.int (1 : Int32)), .val (.int (0 : Int32)), .val (.ref a_LEATHER), .val (.int (2 : Int32)), .unset] [])) (fun _ k => XS.goto X14.here hx rfl (pc0 := 48) (pc' := 107) rfl (hb hby at_48) (by decide) (by decide) k) ?_
      refine Goes.step (B := T14.setTop (mkF m 108 #[.val (.int i0), .val (.int i1), .val (.int (1 : Int32)), .val (.int (0 : Int32)), .val (.ref a_LEATHER), .val (.int (2 : Int32)), .unset] [(.int (1 : Int32))])) (fun _ k => XS.iloadN X14.here hx rfl (hb hby at_107) rfl k) ?_
      refine Goes.step (B := T14.setTop (mkF m 121 #[.val (.int i0), .val (.int i1), .val (.int (1 : Int32)), .val (.int (0 : Int32)), .val (.ref a_LEATHER), .val (.int (2 : Int32)), .unset] [])) (fun _ k => XS.ifYes X14.here hx rfl (pc0 := 108) (pc' := 121) rfl (hb hby at_108) rfl ((if0 _ _).trans (feq (by decide)).2) (by decide) (by decide) k) ?_
      refine Goes.step (B := T14.setTop (mkF m 123 #[.val (.int i0), .val (.int i1), .val (.int (1 : Int32)), .val (.int (0 : Int32)), .val (.ref a_LEATHER), .val (.int (2 : Int32)), .unset] [(.int (2 : Int32))])) (fun _ k => XS.iload X14.here hx rfl (hb hby at_121) rfl k) ?_
      refine Goes.step (B := T14.setTop (mkF m 125 #[.val (.int i0), .val (.int i1), .val (.int (1 : Int32)), .val (.int (0 : Int32)), .val (.ref a_LEATHER), .val (.int (2 : Int32)), .val (.int (2 : Int32))] [])) (fun _ k => XS.istore X14.here hx rfl (hb hby at_123) rfl (l' := #[.val (.int i0), .val (.int i1), .val (.int (1 : Int32)), .val (.int (0 : Int32)), .val (.ref a_LEATHER), .val (.int (2 : Int32)), .val (.int (2 : Int32))]) rfl k) ?_
      refine Goes.step (B := T14.setTop (mkF m 127 #[.val (.int i0), .val (.int i1), .val (.int (1 : Int32)), .val (.int (0 : Int32)), .val (.ref a_LEATHER), .val (.int (2 : Int32)), .val (.int (2 : Int32))] [(.ref a_LEATHER)])) (fun _ k => XS.aload X14.here hx rfl (hb hby at_125) rfl rfl k) ?_
      refine Goes.step (B := T14.setTop (mkF m 128 #[.val (.int i0), .val (.int i1), .val (.int (1 : Int32)), .val (.int (0 : Int32)), .val (.ref a_LEATHER), .val (.int (2 : Int32)), .val (.int (2 : Int32))] [(.int (0 : Int32)), (.ref a_LEATHER)])) (fun _ k => XS.iloadN X14.here hx rfl (hb hby at_127) rfl k) ?_
      have f16 := F_LEATHER_readyOnly.ext O0.2
      have f17 := F_LEATHER_deflection.ext O0.2
      have f18 := E_LEATHER.ext O0.2
      obtain ⟨cq15, kq15, qa15, qb15, qc15⟩ := isOf hZ e14 f18
      obtain ⟨_, _, ⟨T15, L15, k15, n15⟩, -, X15, ⟨Lc15, hQ15, l15, y15, z15⟩, st15⟩ := X14.virtualBack hx (y := (⟨"com/example/roundkeeper/roundkeeper/rulesets/sealedorders/Armor", "deflection", "(Z)I"⟩ : MethodName)) (z := (⟨"com/example/roundkeeper/roundkeeper/rulesets/sealedorders/Armor", "deflection", "(Z)I"⟩ : MethodName)) hown (mvT hZ (hw _ (List.mem_of_getElem? (i := 4) rfl))) (mvT hZ (hw _ (List.mem_of_getElem? (i := 5) rfl))) (notFace_of_selects (args := #[]) (mvT hZ (hw _ (List.mem_of_getElem? (i := 7) rfl)))) (mvT hZ (hw _ (List.mem_of_getElem? (i := 7) rfl))) (mvT hZ (hw _ (List.mem_of_getElem? (i := 6) rfl))) (by decide) (backOf (W := 0) (rm1 l Z a0 hw [] a_LEATHER (0 : Int32) (0 : Int32) (2 : Int32) h0 n0 O0 (by decide) (by decide) f16 f17) hZ (hw _ (List.mem_of_getElem? (i := 8) rfl)) (hw _ (List.mem_of_getElem? (i := 2) rfl)) (by decide) (by decide)) qa15 qc15 (g := (mkF m 128 #[.val (.int i0), .val (.int i1), .val (.int (1 : Int32)), .val (.int (0 : Int32)), .val (.ref a_LEATHER), .val (.int (2 : Int32)), .val (.int (2 : Int32))] [(.int (0 : Int32)), (.ref a_LEATHER)])) rfl (by rw [hml]; rfl) (Steps.refl _) (argsL := [(.int (0 : Int32))]) (rest := []) (lenOf pd_0 rfl) rfl (by show 2 * 0 + _ ≤ _; exact Nat.le_of_eq rfl) (hb hby at_128) (fun _ _ => ⟨rfl, e14, (by decide : 0 + 0 ≤ _), (by decide : 0 + 0 ≤ _)⟩)
      dsimp only [Pt.U, Pt.locs, Pt.cells, Pt.slots] at X15 l15 y15 z15 st15 hQ15
      subst l15 y15 z15
      obtain ⟨rfl, Nq15, eh15⟩ := hQ15
      have N15 := Fr.app N0 Nq15
      refine Goes.via (B := T15.setTop (mkF m 131 #[.val (.int i0), .val (.int i1), .val (.int (1 : Int32)), .val (.int (0 : Int32)), .val (.ref a_LEATHER), .val (.int (2 : Int32)), .val (.int (2 : Int32))] [(.int (own_def (0 : Int32) (0 : Int32) (2 : Int32)))])) st15 ?_
      rw [(by decide : (own_def (0 : Int32) (0 : Int32) (2 : Int32)) = (2 : Int32))]
      refine Goes.step (B := T15.setTop (mkF m 133 #[.val (.int i0), .val (.int i1), .val (.int (1 : Int32)), .val (.int (0 : Int32)), .val (.ref a_LEATHER), .val (.int (2 : Int32)), .val (.int (2 : Int32))] [(.int (2 : Int32)), (.int (2 : Int32))])) (fun _ k => XS.iload X15.here hx rfl (hb hby at_131) rfl k) ?_
      refine Goes.step (B := T15.setTop (mkF m 136 #[.val (.int i0), .val (.int i1), .val (.int (1 : Int32)), .val (.int (0 : Int32)), .val (.ref a_LEATHER), .val (.int (2 : Int32)), .val (.int (2 : Int32))] [])) (fun _ k => XS.icmpNo X15.here hx rfl (hb hby at_133) rfl (teq (by decide)).2 k) ?_
      refine Goes.step (B := T15.setTop (mkF m 137 #[.val (.int i0), .val (.int i1), .val (.int (1 : Int32)), .val (.int (0 : Int32)), .val (.ref a_LEATHER), .val (.int (2 : Int32)), .val (.int (2 : Int32))] [(.int (1 : Int32))])) (fun _ k => XS.iconst X15.here hx rfl (hb hby at_136) k) ?_
      refine Goes.step (B := T15.setTop (mkF m 141 #[.val (.int i0), .val (.int i1), .val (.int (1 : Int32)), .val (.int (0 : Int32)), .val (.ref a_LEATHER), .val (.int (2 : Int32)), .val (.int (2 : Int32))] [(.int (1 : Int32))])) (fun _ k => XS.goto X15.here hx rfl (pc0 := 137) (pc' := 141) rfl (hb hby at_137) (by decide) (by decide) k) ?_
      exact Goes.retN X15 hx eh15 (t := .boolean) Bd.returns (by simp) hlk (hb hby at_141) (by decide) (by decide) (⟨rfl, N15⟩)
    · refine Goes.step (B := s₁.setTop (mkF m 14 #[.val (.int i0), .val (.int i1), .val (.int (1 : Int32)), .unset, .unset, .unset, .unset] [])) (fun _ k => XS.ifNo X0.here hx rfl (hb hby at_11) rfl ((if0 _ _).trans (feq (by decide)).1) k) ?_
      refine Goes.step (B := s₁.setTop (mkF m 15 #[.val (.int i0), .val (.int i1), .val (.int (1 : Int32)), .unset, .unset, .unset, .unset] [(.int (1 : Int32))])) (fun _ k => XS.iconst X0.here hx rfl (hb hby at_14) k) ?_
      refine Goes.step (B := s₁.setTop (mkF m 19 #[.val (.int i0), .val (.int i1), .val (.int (1 : Int32)), .unset, .unset, .unset, .unset] [(.int (1 : Int32))])) (fun _ k => XS.goto X0.here hx rfl (pc0 := 15) (pc' := 19) rfl (hb hby at_15) (by decide) (by decide) k) ?_
      refine Goes.step (B := s₁.setTop (mkF m 20 #[.val (.int i0), .val (.int i1), .val (.int (1 : Int32)), .val (.int (1 : Int32)), .unset, .unset, .unset] [])) (fun _ k => XS.istoreN X0.here hx rfl (hb hby at_19) rfl (l' := #[.val (.int i0), .val (.int i1), .val (.int (1 : Int32)), .val (.int (1 : Int32)), .unset, .unset, .unset]) rfl k) ?_
      refine Goes.step (B := s₁.setTop (mkF m 21 #[.val (.int i0), .val (.int i1), .val (.int (1 : Int32)), .val (.int (1 : Int32)), .unset, .unset, .unset] [(.int (1 : Int32))])) (fun _ k => XS.iloadN X0.here hx rfl (hb hby at_20) rfl k) ?_
      refine Goes.step (B := s₁.setTop (mkF m 35 #[.val (.int i0), .val (.int i1), .val (.int (1 : Int32)), .val (.int (1 : Int32)), .unset, .unset, .unset] [])) (fun _ k => XS.ifYes X0.here hx rfl (pc0 := 21) (pc' := 35) rfl (hb hby at_21) rfl ((if0 _ _).trans (feq (by decide)).2) (by decide) (by decide) k) ?_
      refine Goes.step (B := s₁.setTop (mkF m 36 #[.val (.int i0), .val (.int i1), .val (.int (1 : Int32)), .val (.int (1 : Int32)), .unset, .unset, .unset] [(.int (1 : Int32))])) (fun _ k => XS.iloadN X0.here hx rfl (hb hby at_35) rfl k) ?_
      refine Goes.step (B := s₁.setTop (mkF m 37 #[.val (.int i0), .val (.int i1), .val (.int (1 : Int32)), .val (.int (1 : Int32)), .unset, .unset, .unset] [(.int (1 : Int32)), (.int (1 : Int32))])) (fun _ k => XS.iconst X0.here hx rfl (hb hby at_36) k) ?_
      refine Goes.step (B := s₁.setTop (mkF m 40 #[.val (.int i0), .val (.int i1), .val (.int (1 : Int32)), .val (.int (1 : Int32)), .unset, .unset, .unset] [])) (fun _ k => XS.icmpNo X0.here hx rfl (hb hby at_37) rfl (teq (by decide)).2 k) ?_
      have f19 := S_LEATHER.ext O0.2
      obtain ⟨T20, X20, e20, st20⟩ := getS2 X0 hx hZ hown (host := "") (Or.inl (hw _ (List.mem_of_getElem? (i := 17) rfl))) Via.refl e0 f19 (g := (mkF m 40 #[.val (.int i0), .val (.int i1), .val (.int (1 : Int32)), .val (.int (1 : Int32)), .unset, .unset, .unset] [])) rfl (hb hby at_40)
      refine Goes.step (B := T20.setTop (mkF m 43 #[.val (.int i0), .val (.int i1), .val (.int (1 : Int32)), .val (.int (1 : Int32)), .unset, .unset, .unset] [(.ref a_LEATHER)])) st20 ?_
      refine Goes.step (B := T20.setTop (mkF m 45 #[.val (.int i0), .val (.int i1), .val (.int (1 : Int32)), .val (.int (1 : Int32)), .val (.ref a_LEATHER), .unset, .unset] [])) (fun _ k => XS.astore X20.here hx rfl (hb hby at_43) rfl rfl (l' := #[.val (.int i0), .val (.int i1), .val (.int (1 : Int32)), .val (.int (1 : Int32)), .val (.ref a_LEATHER), .unset, .unset]) rfl k) ?_
      refine Goes.step (B := T20.setTop (mkF m 46 #[.val (.int i0), .val (.int i1), .val (.int (1 : Int32)), .val (.int (1 : Int32)), .val (.ref a_LEATHER), .unset, .unset] [(.int (2 : Int32))])) (fun _ k => XS.iconst X20.here hx rfl (hb hby at_45) k) ?_
      refine Goes.step (B := T20.setTop (mkF m 48 #[.val (.int i0), .val (.int i1), .val (.int (1 : Int32)), .val (.int (1 : Int32)), .val (.ref a_LEATHER), .val (.int (2 : Int32)), .unset] [])) (fun _ k => XS.istore X20.here hx rfl (hb hby at_46) rfl (l' := #[.val (.int i0), .val (.int i1), .val (.int (1 : Int32)), .val (.int (1 : Int32)), .val (.ref a_LEATHER), .val (.int (2 : Int32)), .unset]) rfl k) ?_
      refine Goes.step (B := T20.setTop (mkF m 107 #[.val (.int i0), .val (.int i1), .val (.int (1 : Int32)), .val (.int (1 : Int32)), .val (.ref a_LEATHER), .val (.int (2 : Int32)), .unset] [])) (fun _ k => XS.goto X20.here hx rfl (pc0 := 48) (pc' := 107) rfl (hb hby at_48) (by decide) (by decide) k) ?_
      refine Goes.step (B := T20.setTop (mkF m 108 #[.val (.int i0), .val (.int i1), .val (.int (1 : Int32)), .val (.int (1 : Int32)), .val (.ref a_LEATHER), .val (.int (2 : Int32)), .unset] [(.int (1 : Int32))])) (fun _ k => XS.iloadN X20.here hx rfl (hb hby at_107) rfl k) ?_
      refine Goes.step (B := T20.setTop (mkF m 121 #[.val (.int i0), .val (.int i1), .val (.int (1 : Int32)), .val (.int (1 : Int32)), .val (.ref a_LEATHER), .val (.int (2 : Int32)), .unset] [])) (fun _ k => XS.ifYes X20.here hx rfl (pc0 := 108) (pc' := 121) rfl (hb hby at_108) rfl ((if0 _ _).trans (feq (by decide)).2) (by decide) (by decide) k) ?_
      refine Goes.step (B := T20.setTop (mkF m 123 #[.val (.int i0), .val (.int i1), .val (.int (1 : Int32)), .val (.int (1 : Int32)), .val (.ref a_LEATHER), .val (.int (2 : Int32)), .unset] [(.int (2 : Int32))])) (fun _ k => XS.iload X20.here hx rfl (hb hby at_121) rfl k) ?_
      refine Goes.step (B := T20.setTop (mkF m 125 #[.val (.int i0), .val (.int i1), .val (.int (1 : Int32)), .val (.int (1 : Int32)), .val (.ref a_LEATHER), .val (.int (2 : Int32)), .val (.int (2 : Int32))] [])) (fun _ k => XS.istore X20.here hx rfl (hb hby at_123) rfl (l' := #[.val (.int i0), .val (.int i1), .val (.int (1 : Int32)), .val (.int (1 : Int32)), .val (.ref a_LEATHER), .val (.int (2 : Int32)), .val (.int (2 : Int32))]) rfl k) ?_
      refine Goes.step (B := T20.setTop (mkF m 127 #[.val (.int i0), .val (.int i1), .val (.int (1 : Int32)), .val (.int (1 : Int32)), .val (.ref a_LEATHER), .val (.int (2 : Int32)), .val (.int (2 : Int32))] [(.ref a_LEATHER)])) (fun _ k => XS.aload X20.here hx rfl (hb hby at_125) rfl rfl k) ?_
      refine Goes.step (B := T20.setTop (mkF m 128 #[.val (.int i0), .val (.int i1), .val (.int (1 : Int32)), .val (.int (1 : Int32)), .val (.ref a_LEATHER), .val (.int (2 : Int32)), .val (.int (2 : Int32))] [(.int (1 : Int32)), (.ref a_LEATHER)])) (fun _ k => XS.iloadN X20.here hx rfl (hb hby at_127) rfl k) ?_
      have f22 := F_LEATHER_readyOnly.ext O0.2
      have f23 := F_LEATHER_deflection.ext O0.2
      have f24 := E_LEATHER.ext O0.2
      obtain ⟨cq21, kq21, qa21, qb21, qc21⟩ := isOf hZ e20 f24
      obtain ⟨_, _, ⟨T21, L21, k21, n21⟩, -, X21, ⟨Lc21, hQ21, l21, y21, z21⟩, st21⟩ := X20.virtualBack hx (y := (⟨"com/example/roundkeeper/roundkeeper/rulesets/sealedorders/Armor", "deflection", "(Z)I"⟩ : MethodName)) (z := (⟨"com/example/roundkeeper/roundkeeper/rulesets/sealedorders/Armor", "deflection", "(Z)I"⟩ : MethodName)) hown (mvT hZ (hw _ (List.mem_of_getElem? (i := 4) rfl))) (mvT hZ (hw _ (List.mem_of_getElem? (i := 5) rfl))) (notFace_of_selects (args := #[]) (mvT hZ (hw _ (List.mem_of_getElem? (i := 7) rfl)))) (mvT hZ (hw _ (List.mem_of_getElem? (i := 7) rfl))) (mvT hZ (hw _ (List.mem_of_getElem? (i := 6) rfl))) (by decide) (backOf (W := 0) (rm1 l Z a0 hw [] a_LEATHER (1 : Int32) (0 : Int32) (2 : Int32) h0 n0 O0 (by decide) (by decide) f22 f23) hZ (hw _ (List.mem_of_getElem? (i := 8) rfl)) (hw _ (List.mem_of_getElem? (i := 2) rfl)) (by decide) (by decide)) qa21 qc21 (g := (mkF m 128 #[.val (.int i0), .val (.int i1), .val (.int (1 : Int32)), .val (.int (1 : Int32)), .val (.ref a_LEATHER), .val (.int (2 : Int32)), .val (.int (2 : Int32))] [(.int (1 : Int32)), (.ref a_LEATHER)])) rfl (by rw [hml]; rfl) (Steps.refl _) (argsL := [(.int (1 : Int32))]) (rest := []) (lenOf pd_0 rfl) rfl (by show 2 * 0 + _ ≤ _; exact Nat.le_of_eq rfl) (hb hby at_128) (fun _ _ => ⟨rfl, e20, (by decide : 0 + 0 ≤ _), (by decide : 0 + 0 ≤ _)⟩)
      dsimp only [Pt.U, Pt.locs, Pt.cells, Pt.slots] at X21 l21 y21 z21 st21 hQ21
      subst l21 y21 z21
      obtain ⟨rfl, Nq21, eh21⟩ := hQ21
      have N21 := Fr.app N0 Nq21
      refine Goes.via (B := T21.setTop (mkF m 131 #[.val (.int i0), .val (.int i1), .val (.int (1 : Int32)), .val (.int (1 : Int32)), .val (.ref a_LEATHER), .val (.int (2 : Int32)), .val (.int (2 : Int32))] [(.int (own_def (1 : Int32) (0 : Int32) (2 : Int32)))])) st21 ?_
      rw [(by decide : (own_def (1 : Int32) (0 : Int32) (2 : Int32)) = (2 : Int32))]
      refine Goes.step (B := T21.setTop (mkF m 133 #[.val (.int i0), .val (.int i1), .val (.int (1 : Int32)), .val (.int (1 : Int32)), .val (.ref a_LEATHER), .val (.int (2 : Int32)), .val (.int (2 : Int32))] [(.int (2 : Int32)), (.int (2 : Int32))])) (fun _ k => XS.iload X21.here hx rfl (hb hby at_131) rfl k) ?_
      refine Goes.step (B := T21.setTop (mkF m 136 #[.val (.int i0), .val (.int i1), .val (.int (1 : Int32)), .val (.int (1 : Int32)), .val (.ref a_LEATHER), .val (.int (2 : Int32)), .val (.int (2 : Int32))] [])) (fun _ k => XS.icmpNo X21.here hx rfl (hb hby at_133) rfl (teq (by decide)).2 k) ?_
      refine Goes.step (B := T21.setTop (mkF m 137 #[.val (.int i0), .val (.int i1), .val (.int (1 : Int32)), .val (.int (1 : Int32)), .val (.ref a_LEATHER), .val (.int (2 : Int32)), .val (.int (2 : Int32))] [(.int (1 : Int32))])) (fun _ k => XS.iconst X21.here hx rfl (hb hby at_136) k) ?_
      refine Goes.step (B := T21.setTop (mkF m 141 #[.val (.int i0), .val (.int i1), .val (.int (1 : Int32)), .val (.int (1 : Int32)), .val (.ref a_LEATHER), .val (.int (2 : Int32)), .val (.int (2 : Int32))] [(.int (1 : Int32))])) (fun _ k => XS.goto X21.here hx rfl (pc0 := 137) (pc' := 141) rfl (hb hby at_137) (by decide) (by decide) k) ?_
      exact Goes.retN X21 hx eh21 (t := .boolean) Bd.returns (by simp) hlk (hb hby at_141) (by decide) (by decide) (⟨rfl, N21⟩)
  · refine Goes.step (B := s₁.setTop (mkF m 8 #[.val (.int i0), .val (.int i1), .val (.int (2 : Int32)), .unset, .unset, .unset, .unset] [])) (fun _ k => XS.istoreN X0.here hx rfl (hb hby at_7) rfl (l' := #[.val (.int i0), .val (.int i1), .val (.int (2 : Int32)), .unset, .unset, .unset, .unset]) rfl k) ?_
    refine Goes.step (B := s₁.setTop (mkF m 9 #[.val (.int i0), .val (.int i1), .val (.int (2 : Int32)), .unset, .unset, .unset, .unset] [(.int i1)])) (fun _ k => XS.iloadN X0.here hx rfl (hb hby at_8) rfl k) ?_
    refine Goes.step (B := s₁.setTop (mkF m 10 #[.val (.int i0), .val (.int i1), .val (.int (2 : Int32)), .unset, .unset, .unset, .unset] [(.int (1 : Int32)), (.int i1)])) (fun _ k => XS.iconst X0.here hx rfl (hb hby at_9) k) ?_
    refine Goes.step (B := s₁.setTop (mkF m 11 #[.val (.int i0), .val (.int i1), .val (.int (2 : Int32)), .unset, .unset, .unset, .unset] [(.int (i1 &&& (1 : Int32)))])) (fun _ k => XS.iand X0.here hx rfl (hb hby at_10) rfl k) ?_
    obtain ⟨bv, hbv⟩ : ∃ z, z = (i1 &&& (1 : Int32)) := ⟨_, rfl⟩
    rw [← hbv]
    rcases own_bit hbv with rfl | rfl
    · refine Goes.step (B := s₁.setTop (mkF m 18 #[.val (.int i0), .val (.int i1), .val (.int (2 : Int32)), .unset, .unset, .unset, .unset] [])) (fun _ k => XS.ifYes X0.here hx rfl (pc0 := 11) (pc' := 18) rfl (hb hby at_11) rfl ((if0 _ _).trans (teq (by decide)).1) (by decide) (by decide) k) ?_
      refine Goes.step (B := s₁.setTop (mkF m 19 #[.val (.int i0), .val (.int i1), .val (.int (2 : Int32)), .unset, .unset, .unset, .unset] [(.int (0 : Int32))])) (fun _ k => XS.iconst X0.here hx rfl (hb hby at_18) k) ?_
      refine Goes.step (B := s₁.setTop (mkF m 20 #[.val (.int i0), .val (.int i1), .val (.int (2 : Int32)), .val (.int (0 : Int32)), .unset, .unset, .unset] [])) (fun _ k => XS.istoreN X0.here hx rfl (hb hby at_19) rfl (l' := #[.val (.int i0), .val (.int i1), .val (.int (2 : Int32)), .val (.int (0 : Int32)), .unset, .unset, .unset]) rfl k) ?_
      refine Goes.step (B := s₁.setTop (mkF m 21 #[.val (.int i0), .val (.int i1), .val (.int (2 : Int32)), .val (.int (0 : Int32)), .unset, .unset, .unset] [(.int (2 : Int32))])) (fun _ k => XS.iloadN X0.here hx rfl (hb hby at_20) rfl k) ?_
      refine Goes.step (B := s₁.setTop (mkF m 35 #[.val (.int i0), .val (.int i1), .val (.int (2 : Int32)), .val (.int (0 : Int32)), .unset, .unset, .unset] [])) (fun _ k => XS.ifYes X0.here hx rfl (pc0 := 21) (pc' := 35) rfl (hb hby at_21) rfl ((if0 _ _).trans (feq (by decide)).2) (by decide) (by decide) k) ?_
      refine Goes.step (B := s₁.setTop (mkF m 36 #[.val (.int i0), .val (.int i1), .val (.int (2 : Int32)), .val (.int (0 : Int32)), .unset, .unset, .unset] [(.int (2 : Int32))])) (fun _ k => XS.iloadN X0.here hx rfl (hb hby at_35) rfl k) ?_
      refine Goes.step (B := s₁.setTop (mkF m 37 #[.val (.int i0), .val (.int i1), .val (.int (2 : Int32)), .val (.int (0 : Int32)), .unset, .unset, .unset] [(.int (1 : Int32)), (.int (2 : Int32))])) (fun _ k => XS.iconst X0.here hx rfl (hb hby at_36) k) ?_
      refine Goes.step (B := s₁.setTop (mkF m 51 #[.val (.int i0), .val (.int i1), .val (.int (2 : Int32)), .val (.int (0 : Int32)), .unset, .unset, .unset] [])) (fun _ k => XS.icmpYes X0.here hx rfl (pc0 := 37) (pc' := 51) rfl (hb hby at_37) rfl (feq (by decide)).2 (by decide) (by decide) k) ?_
      refine Goes.step (B := s₁.setTop (mkF m 52 #[.val (.int i0), .val (.int i1), .val (.int (2 : Int32)), .val (.int (0 : Int32)), .unset, .unset, .unset] [(.int (2 : Int32))])) (fun _ k => XS.iloadN X0.here hx rfl (hb hby at_51) rfl k) ?_
      refine Goes.step (B := s₁.setTop (mkF m 53 #[.val (.int i0), .val (.int i1), .val (.int (2 : Int32)), .val (.int (0 : Int32)), .unset, .unset, .unset] [(.int (2 : Int32)), (.int (2 : Int32))])) (fun _ k => XS.iconst X0.here hx rfl (hb hby at_52) k) ?_
      refine Goes.step (B := s₁.setTop (mkF m 56 #[.val (.int i0), .val (.int i1), .val (.int (2 : Int32)), .val (.int (0 : Int32)), .unset, .unset, .unset] [])) (fun _ k => XS.icmpNo X0.here hx rfl (hb hby at_53) rfl (teq (by decide)).2 k) ?_
      have f25 := S_CHAIN_MAIL.ext O0.2
      obtain ⟨T26, X26, e26, st26⟩ := getS2 X0 hx hZ hown (host := "") (Or.inl (hw _ (List.mem_of_getElem? (i := 11) rfl))) Via.refl e0 f25 (g := (mkF m 56 #[.val (.int i0), .val (.int i1), .val (.int (2 : Int32)), .val (.int (0 : Int32)), .unset, .unset, .unset] [])) rfl (hb hby at_56)
      refine Goes.step (B := T26.setTop (mkF m 59 #[.val (.int i0), .val (.int i1), .val (.int (2 : Int32)), .val (.int (0 : Int32)), .unset, .unset, .unset] [(.ref a_CHAIN_MAIL)])) st26 ?_
      refine Goes.step (B := T26.setTop (mkF m 61 #[.val (.int i0), .val (.int i1), .val (.int (2 : Int32)), .val (.int (0 : Int32)), .val (.ref a_CHAIN_MAIL), .unset, .unset] [])) (fun _ k => XS.astore X26.here hx rfl (hb hby at_59) rfl rfl (l' := #[.val (.int i0), .val (.int i1), .val (.int (2 : Int32)), .val (.int (0 : Int32)), .val (.ref a_CHAIN_MAIL), .unset, .unset]) rfl k) ?_
      refine Goes.step (B := T26.setTop (mkF m 62 #[.val (.int i0), .val (.int i1), .val (.int (2 : Int32)), .val (.int (0 : Int32)), .val (.ref a_CHAIN_MAIL), .unset, .unset] [(.int (1 : Int32))])) (fun _ k => XS.iconst X26.here hx rfl (hb hby at_61) k) ?_
      refine Goes.step (B := T26.setTop (mkF m 64 #[.val (.int i0), .val (.int i1), .val (.int (2 : Int32)), .val (.int (0 : Int32)), .val (.ref a_CHAIN_MAIL), .val (.int (1 : Int32)), .unset] [])) (fun _ k => XS.istore X26.here hx rfl (hb hby at_62) rfl (l' := #[.val (.int i0), .val (.int i1), .val (.int (2 : Int32)), .val (.int (0 : Int32)), .val (.ref a_CHAIN_MAIL), .val (.int (1 : Int32)), .unset]) rfl k) ?_
      refine Goes.step (B := T26.setTop (mkF m 107 #[.val (.int i0), .val (.int i1), .val (.int (2 : Int32)), .val (.int (0 : Int32)), .val (.ref a_CHAIN_MAIL), .val (.int (1 : Int32)), .unset] [])) (fun _ k => XS.goto X26.here hx rfl (pc0 := 64) (pc' := 107) rfl (hb hby at_64) (by decide) (by decide) k) ?_
      refine Goes.step (B := T26.setTop (mkF m 108 #[.val (.int i0), .val (.int i1), .val (.int (2 : Int32)), .val (.int (0 : Int32)), .val (.ref a_CHAIN_MAIL), .val (.int (1 : Int32)), .unset] [(.int (2 : Int32))])) (fun _ k => XS.iloadN X26.here hx rfl (hb hby at_107) rfl k) ?_
      refine Goes.step (B := T26.setTop (mkF m 121 #[.val (.int i0), .val (.int i1), .val (.int (2 : Int32)), .val (.int (0 : Int32)), .val (.ref a_CHAIN_MAIL), .val (.int (1 : Int32)), .unset] [])) (fun _ k => XS.ifYes X26.here hx rfl (pc0 := 108) (pc' := 121) rfl (hb hby at_108) rfl ((if0 _ _).trans (feq (by decide)).2) (by decide) (by decide) k) ?_
      refine Goes.step (B := T26.setTop (mkF m 123 #[.val (.int i0), .val (.int i1), .val (.int (2 : Int32)), .val (.int (0 : Int32)), .val (.ref a_CHAIN_MAIL), .val (.int (1 : Int32)), .unset] [(.int (1 : Int32))])) (fun _ k => XS.iload X26.here hx rfl (hb hby at_121) rfl k) ?_
      refine Goes.step (B := T26.setTop (mkF m 125 #[.val (.int i0), .val (.int i1), .val (.int (2 : Int32)), .val (.int (0 : Int32)), .val (.ref a_CHAIN_MAIL), .val (.int (1 : Int32)), .val (.int (1 : Int32))] [])) (fun _ k => XS.istore X26.here hx rfl (hb hby at_123) rfl (l' := #[.val (.int i0), .val (.int i1), .val (.int (2 : Int32)), .val (.int (0 : Int32)), .val (.ref a_CHAIN_MAIL), .val (.int (1 : Int32)), .val (.int (1 : Int32))]) rfl k) ?_
      refine Goes.step (B := T26.setTop (mkF m 127 #[.val (.int i0), .val (.int i1), .val (.int (2 : Int32)), .val (.int (0 : Int32)), .val (.ref a_CHAIN_MAIL), .val (.int (1 : Int32)), .val (.int (1 : Int32))] [(.ref a_CHAIN_MAIL)])) (fun _ k => XS.aload X26.here hx rfl (hb hby at_125) rfl rfl k) ?_
      refine Goes.step (B := T26.setTop (mkF m 128 #[.val (.int i0), .val (.int i1), .val (.int (2 : Int32)), .val (.int (0 : Int32)), .val (.ref a_CHAIN_MAIL), .val (.int (1 : Int32)), .val (.int (1 : Int32))] [(.int (0 : Int32)), (.ref a_CHAIN_MAIL)])) (fun _ k => XS.iloadN X26.here hx rfl (hb hby at_127) rfl k) ?_
      have f28 := F_CHAIN_MAIL_readyOnly.ext O0.2
      have f29 := F_CHAIN_MAIL_deflection.ext O0.2
      have f30 := E_CHAIN_MAIL.ext O0.2
      obtain ⟨cq27, kq27, qa27, qb27, qc27⟩ := isOf hZ e26 f30
      obtain ⟨_, _, ⟨T27, L27, k27, n27⟩, -, X27, ⟨Lc27, hQ27, l27, y27, z27⟩, st27⟩ := X26.virtualBack hx (y := (⟨"com/example/roundkeeper/roundkeeper/rulesets/sealedorders/Armor", "deflection", "(Z)I"⟩ : MethodName)) (z := (⟨"com/example/roundkeeper/roundkeeper/rulesets/sealedorders/Armor", "deflection", "(Z)I"⟩ : MethodName)) hown (mvT hZ (hw _ (List.mem_of_getElem? (i := 4) rfl))) (mvT hZ (hw _ (List.mem_of_getElem? (i := 5) rfl))) (notFace_of_selects (args := #[]) (mvT hZ (hw _ (List.mem_of_getElem? (i := 7) rfl)))) (mvT hZ (hw _ (List.mem_of_getElem? (i := 7) rfl))) (mvT hZ (hw _ (List.mem_of_getElem? (i := 6) rfl))) (by decide) (backOf (W := 0) (rm1 l Z a0 hw [] a_CHAIN_MAIL (0 : Int32) (0 : Int32) (1 : Int32) h0 n0 O0 (by decide) (by decide) f28 f29) hZ (hw _ (List.mem_of_getElem? (i := 8) rfl)) (hw _ (List.mem_of_getElem? (i := 2) rfl)) (by decide) (by decide)) qa27 qc27 (g := (mkF m 128 #[.val (.int i0), .val (.int i1), .val (.int (2 : Int32)), .val (.int (0 : Int32)), .val (.ref a_CHAIN_MAIL), .val (.int (1 : Int32)), .val (.int (1 : Int32))] [(.int (0 : Int32)), (.ref a_CHAIN_MAIL)])) rfl (by rw [hml]; rfl) (Steps.refl _) (argsL := [(.int (0 : Int32))]) (rest := []) (lenOf pd_0 rfl) rfl (by show 2 * 0 + _ ≤ _; exact Nat.le_of_eq rfl) (hb hby at_128) (fun _ _ => ⟨rfl, e26, (by decide : 0 + 0 ≤ _), (by decide : 0 + 0 ≤ _)⟩)
      dsimp only [Pt.U, Pt.locs, Pt.cells, Pt.slots] at X27 l27 y27 z27 st27 hQ27
      subst l27 y27 z27
      obtain ⟨rfl, Nq27, eh27⟩ := hQ27
      have N27 := Fr.app N0 Nq27
      refine Goes.via (B := T27.setTop (mkF m 131 #[.val (.int i0), .val (.int i1), .val (.int (2 : Int32)), .val (.int (0 : Int32)), .val (.ref a_CHAIN_MAIL), .val (.int (1 : Int32)), .val (.int (1 : Int32))] [(.int (own_def (0 : Int32) (0 : Int32) (1 : Int32)))])) st27 ?_
      rw [(by decide : (own_def (0 : Int32) (0 : Int32) (1 : Int32)) = (1 : Int32))]
      refine Goes.step (B := T27.setTop (mkF m 133 #[.val (.int i0), .val (.int i1), .val (.int (2 : Int32)), .val (.int (0 : Int32)), .val (.ref a_CHAIN_MAIL), .val (.int (1 : Int32)), .val (.int (1 : Int32))] [(.int (1 : Int32)), (.int (1 : Int32))])) (fun _ k => XS.iload X27.here hx rfl (hb hby at_131) rfl k) ?_
      refine Goes.step (B := T27.setTop (mkF m 136 #[.val (.int i0), .val (.int i1), .val (.int (2 : Int32)), .val (.int (0 : Int32)), .val (.ref a_CHAIN_MAIL), .val (.int (1 : Int32)), .val (.int (1 : Int32))] [])) (fun _ k => XS.icmpNo X27.here hx rfl (hb hby at_133) rfl (teq (by decide)).2 k) ?_
      refine Goes.step (B := T27.setTop (mkF m 137 #[.val (.int i0), .val (.int i1), .val (.int (2 : Int32)), .val (.int (0 : Int32)), .val (.ref a_CHAIN_MAIL), .val (.int (1 : Int32)), .val (.int (1 : Int32))] [(.int (1 : Int32))])) (fun _ k => XS.iconst X27.here hx rfl (hb hby at_136) k) ?_
      refine Goes.step (B := T27.setTop (mkF m 141 #[.val (.int i0), .val (.int i1), .val (.int (2 : Int32)), .val (.int (0 : Int32)), .val (.ref a_CHAIN_MAIL), .val (.int (1 : Int32)), .val (.int (1 : Int32))] [(.int (1 : Int32))])) (fun _ k => XS.goto X27.here hx rfl (pc0 := 137) (pc' := 141) rfl (hb hby at_137) (by decide) (by decide) k) ?_
      exact Goes.retN X27 hx eh27 (t := .boolean) Bd.returns (by simp) hlk (hb hby at_141) (by decide) (by decide) (⟨rfl, N27⟩)
    · refine Goes.step (B := s₁.setTop (mkF m 14 #[.val (.int i0), .val (.int i1), .val (.int (2 : Int32)), .unset, .unset, .unset, .unset] [])) (fun _ k => XS.ifNo X0.here hx rfl (hb hby at_11) rfl ((if0 _ _).trans (feq (by decide)).1) k) ?_
      refine Goes.step (B := s₁.setTop (mkF m 15 #[.val (.int i0), .val (.int i1), .val (.int (2 : Int32)), .unset, .unset, .unset, .unset] [(.int (1 : Int32))])) (fun _ k => XS.iconst X0.here hx rfl (hb hby at_14) k) ?_
      refine Goes.step (B := s₁.setTop (mkF m 19 #[.val (.int i0), .val (.int i1), .val (.int (2 : Int32)), .unset, .unset, .unset, .unset] [(.int (1 : Int32))])) (fun _ k => XS.goto X0.here hx rfl (pc0 := 15) (pc' := 19) rfl (hb hby at_15) (by decide) (by decide) k) ?_
      refine Goes.step (B := s₁.setTop (mkF m 20 #[.val (.int i0), .val (.int i1), .val (.int (2 : Int32)), .val (.int (1 : Int32)), .unset, .unset, .unset] [])) (fun _ k => XS.istoreN X0.here hx rfl (hb hby at_19) rfl (l' := #[.val (.int i0), .val (.int i1), .val (.int (2 : Int32)), .val (.int (1 : Int32)), .unset, .unset, .unset]) rfl k) ?_
      refine Goes.step (B := s₁.setTop (mkF m 21 #[.val (.int i0), .val (.int i1), .val (.int (2 : Int32)), .val (.int (1 : Int32)), .unset, .unset, .unset] [(.int (2 : Int32))])) (fun _ k => XS.iloadN X0.here hx rfl (hb hby at_20) rfl k) ?_
      refine Goes.step (B := s₁.setTop (mkF m 35 #[.val (.int i0), .val (.int i1), .val (.int (2 : Int32)), .val (.int (1 : Int32)), .unset, .unset, .unset] [])) (fun _ k => XS.ifYes X0.here hx rfl (pc0 := 21) (pc' := 35) rfl (hb hby at_21) rfl ((if0 _ _).trans (feq (by decide)).2) (by decide) (by decide) k) ?_
      refine Goes.step (B := s₁.setTop (mkF m 36 #[.val (.int i0), .val (.int i1), .val (.int (2 : Int32)), .val (.int (1 : Int32)), .unset, .unset, .unset] [(.int (2 : Int32))])) (fun _ k => XS.iloadN X0.here hx rfl (hb hby at_35) rfl k) ?_
      refine Goes.step (B := s₁.setTop (mkF m 37 #[.val (.int i0), .val (.int i1), .val (.int (2 : Int32)), .val (.int (1 : Int32)), .unset, .unset, .unset] [(.int (1 : Int32)), (.int (2 : Int32))])) (fun _ k => XS.iconst X0.here hx rfl (hb hby at_36) k) ?_
      refine Goes.step (B := s₁.setTop (mkF m 51 #[.val (.int i0), .val (.int i1), .val (.int (2 : Int32)), .val (.int (1 : Int32)), .unset, .unset, .unset] [])) (fun _ k => XS.icmpYes X0.here hx rfl (pc0 := 37) (pc' := 51) rfl (hb hby at_37) rfl (feq (by decide)).2 (by decide) (by decide) k) ?_
      refine Goes.step (B := s₁.setTop (mkF m 52 #[.val (.int i0), .val (.int i1), .val (.int (2 : Int32)), .val (.int (1 : Int32)), .unset, .unset, .unset] [(.int (2 : Int32))])) (fun _ k => XS.iloadN X0.here hx rfl (hb hby at_51) rfl k) ?_
      refine Goes.step (B := s₁.setTop (mkF m 53 #[.val (.int i0), .val (.int i1), .val (.int (2 : Int32)), .val (.int (1 : Int32)), .unset, .unset, .unset] [(.int (2 : Int32)), (.int (2 : Int32))])) (fun _ k => XS.iconst X0.here hx rfl (hb hby at_52) k) ?_
      refine Goes.step (B := s₁.setTop (mkF m 56 #[.val (.int i0), .val (.int i1), .val (.int (2 : Int32)), .val (.int (1 : Int32)), .unset, .unset, .unset] [])) (fun _ k => XS.icmpNo X0.here hx rfl (hb hby at_53) rfl (teq (by decide)).2 k) ?_
      have f31 := S_CHAIN_MAIL.ext O0.2
      obtain ⟨T32, X32, e32, st32⟩ := getS2 X0 hx hZ hown (host := "") (Or.inl (hw _ (List.mem_of_getElem? (i := 11) rfl))) Via.refl e0 f31 (g := (mkF m 56 #[.val (.int i0), .val (.int i1), .val (.int (2 : Int32)), .val (.int (1 : Int32)), .unset, .unset, .unset] [])) rfl (hb hby at_56)
      refine Goes.step (B := T32.setTop (mkF m 59 #[.val (.int i0), .val (.int i1), .val (.int (2 : Int32)), .val (.int (1 : Int32)), .unset, .unset, .unset] [(.ref a_CHAIN_MAIL)])) st32 ?_
      refine Goes.step (B := T32.setTop (mkF m 61 #[.val (.int i0), .val (.int i1), .val (.int (2 : Int32)), .val (.int (1 : Int32)), .val (.ref a_CHAIN_MAIL), .unset, .unset] [])) (fun _ k => XS.astore X32.here hx rfl (hb hby at_59) rfl rfl (l' := #[.val (.int i0), .val (.int i1), .val (.int (2 : Int32)), .val (.int (1 : Int32)), .val (.ref a_CHAIN_MAIL), .unset, .unset]) rfl k) ?_
      refine Goes.step (B := T32.setTop (mkF m 62 #[.val (.int i0), .val (.int i1), .val (.int (2 : Int32)), .val (.int (1 : Int32)), .val (.ref a_CHAIN_MAIL), .unset, .unset] [(.int (1 : Int32))])) (fun _ k => XS.iconst X32.here hx rfl (hb hby at_61) k) ?_
      refine Goes.step (B := T32.setTop (mkF m 64 #[.val (.int i0), .val (.int i1), .val (.int (2 : Int32)), .val (.int (1 : Int32)), .val (.ref a_CHAIN_MAIL), .val (.int (1 : Int32)), .unset] [])) (fun _ k => XS.istore X32.here hx rfl (hb hby at_62) rfl (l' := #[.val (.int i0), .val (.int i1), .val (.int (2 : Int32)), .val (.int (1 : Int32)), .val (.ref a_CHAIN_MAIL), .val (.int (1 : Int32)), .unset]) rfl k) ?_
      refine Goes.step (B := T32.setTop (mkF m 107 #[.val (.int i0), .val (.int i1), .val (.int (2 : Int32)), .val (.int (1 : Int32)), .val (.ref a_CHAIN_MAIL), .val (.int (1 : Int32)), .unset] [])) (fun _ k => XS.goto X32.here hx rfl (pc0 := 64) (pc' := 107) rfl (hb hby at_64) (by decide) (by decide) k) ?_
      refine Goes.step (B := T32.setTop (mkF m 108 #[.val (.int i0), .val (.int i1), .val (.int (2 : Int32)), .val (.int (1 : Int32)), .val (.ref a_CHAIN_MAIL), .val (.int (1 : Int32)), .unset] [(.int (2 : Int32))])) (fun _ k => XS.iloadN X32.here hx rfl (hb hby at_107) rfl k) ?_
      refine Goes.step (B := T32.setTop (mkF m 121 #[.val (.int i0), .val (.int i1), .val (.int (2 : Int32)), .val (.int (1 : Int32)), .val (.ref a_CHAIN_MAIL), .val (.int (1 : Int32)), .unset] [])) (fun _ k => XS.ifYes X32.here hx rfl (pc0 := 108) (pc' := 121) rfl (hb hby at_108) rfl ((if0 _ _).trans (feq (by decide)).2) (by decide) (by decide) k) ?_
      refine Goes.step (B := T32.setTop (mkF m 123 #[.val (.int i0), .val (.int i1), .val (.int (2 : Int32)), .val (.int (1 : Int32)), .val (.ref a_CHAIN_MAIL), .val (.int (1 : Int32)), .unset] [(.int (1 : Int32))])) (fun _ k => XS.iload X32.here hx rfl (hb hby at_121) rfl k) ?_
      refine Goes.step (B := T32.setTop (mkF m 125 #[.val (.int i0), .val (.int i1), .val (.int (2 : Int32)), .val (.int (1 : Int32)), .val (.ref a_CHAIN_MAIL), .val (.int (1 : Int32)), .val (.int (1 : Int32))] [])) (fun _ k => XS.istore X32.here hx rfl (hb hby at_123) rfl (l' := #[.val (.int i0), .val (.int i1), .val (.int (2 : Int32)), .val (.int (1 : Int32)), .val (.ref a_CHAIN_MAIL), .val (.int (1 : Int32)), .val (.int (1 : Int32))]) rfl k) ?_
      refine Goes.step (B := T32.setTop (mkF m 127 #[.val (.int i0), .val (.int i1), .val (.int (2 : Int32)), .val (.int (1 : Int32)), .val (.ref a_CHAIN_MAIL), .val (.int (1 : Int32)), .val (.int (1 : Int32))] [(.ref a_CHAIN_MAIL)])) (fun _ k => XS.aload X32.here hx rfl (hb hby at_125) rfl rfl k) ?_
      refine Goes.step (B := T32.setTop (mkF m 128 #[.val (.int i0), .val (.int i1), .val (.int (2 : Int32)), .val (.int (1 : Int32)), .val (.ref a_CHAIN_MAIL), .val (.int (1 : Int32)), .val (.int (1 : Int32))] [(.int (1 : Int32)), (.ref a_CHAIN_MAIL)])) (fun _ k => XS.iloadN X32.here hx rfl (hb hby at_127) rfl k) ?_
      have f34 := F_CHAIN_MAIL_readyOnly.ext O0.2
      have f35 := F_CHAIN_MAIL_deflection.ext O0.2
      have f36 := E_CHAIN_MAIL.ext O0.2
      obtain ⟨cq33, kq33, qa33, qb33, qc33⟩ := isOf hZ e32 f36
      obtain ⟨_, _, ⟨T33, L33, k33, n33⟩, -, X33, ⟨Lc33, hQ33, l33, y33, z33⟩, st33⟩ := X32.virtualBack hx (y := (⟨"com/example/roundkeeper/roundkeeper/rulesets/sealedorders/Armor", "deflection", "(Z)I"⟩ : MethodName)) (z := (⟨"com/example/roundkeeper/roundkeeper/rulesets/sealedorders/Armor", "deflection", "(Z)I"⟩ : MethodName)) hown (mvT hZ (hw _ (List.mem_of_getElem? (i := 4) rfl))) (mvT hZ (hw _ (List.mem_of_getElem? (i := 5) rfl))) (notFace_of_selects (args := #[]) (mvT hZ (hw _ (List.mem_of_getElem? (i := 7) rfl)))) (mvT hZ (hw _ (List.mem_of_getElem? (i := 7) rfl))) (mvT hZ (hw _ (List.mem_of_getElem? (i := 6) rfl))) (by decide) (backOf (W := 0) (rm1 l Z a0 hw [] a_CHAIN_MAIL (1 : Int32) (0 : Int32) (1 : Int32) h0 n0 O0 (by decide) (by decide) f34 f35) hZ (hw _ (List.mem_of_getElem? (i := 8) rfl)) (hw _ (List.mem_of_getElem? (i := 2) rfl)) (by decide) (by decide)) qa33 qc33 (g := (mkF m 128 #[.val (.int i0), .val (.int i1), .val (.int (2 : Int32)), .val (.int (1 : Int32)), .val (.ref a_CHAIN_MAIL), .val (.int (1 : Int32)), .val (.int (1 : Int32))] [(.int (1 : Int32)), (.ref a_CHAIN_MAIL)])) rfl (by rw [hml]; rfl) (Steps.refl _) (argsL := [(.int (1 : Int32))]) (rest := []) (lenOf pd_0 rfl) rfl (by show 2 * 0 + _ ≤ _; exact Nat.le_of_eq rfl) (hb hby at_128) (fun _ _ => ⟨rfl, e32, (by decide : 0 + 0 ≤ _), (by decide : 0 + 0 ≤ _)⟩)
      dsimp only [Pt.U, Pt.locs, Pt.cells, Pt.slots] at X33 l33 y33 z33 st33 hQ33
      subst l33 y33 z33
      obtain ⟨rfl, Nq33, eh33⟩ := hQ33
      have N33 := Fr.app N0 Nq33
      refine Goes.via (B := T33.setTop (mkF m 131 #[.val (.int i0), .val (.int i1), .val (.int (2 : Int32)), .val (.int (1 : Int32)), .val (.ref a_CHAIN_MAIL), .val (.int (1 : Int32)), .val (.int (1 : Int32))] [(.int (own_def (1 : Int32) (0 : Int32) (1 : Int32)))])) st33 ?_
      rw [(by decide : (own_def (1 : Int32) (0 : Int32) (1 : Int32)) = (1 : Int32))]
      refine Goes.step (B := T33.setTop (mkF m 133 #[.val (.int i0), .val (.int i1), .val (.int (2 : Int32)), .val (.int (1 : Int32)), .val (.ref a_CHAIN_MAIL), .val (.int (1 : Int32)), .val (.int (1 : Int32))] [(.int (1 : Int32)), (.int (1 : Int32))])) (fun _ k => XS.iload X33.here hx rfl (hb hby at_131) rfl k) ?_
      refine Goes.step (B := T33.setTop (mkF m 136 #[.val (.int i0), .val (.int i1), .val (.int (2 : Int32)), .val (.int (1 : Int32)), .val (.ref a_CHAIN_MAIL), .val (.int (1 : Int32)), .val (.int (1 : Int32))] [])) (fun _ k => XS.icmpNo X33.here hx rfl (hb hby at_133) rfl (teq (by decide)).2 k) ?_
      refine Goes.step (B := T33.setTop (mkF m 137 #[.val (.int i0), .val (.int i1), .val (.int (2 : Int32)), .val (.int (1 : Int32)), .val (.ref a_CHAIN_MAIL), .val (.int (1 : Int32)), .val (.int (1 : Int32))] [(.int (1 : Int32))])) (fun _ k => XS.iconst X33.here hx rfl (hb hby at_136) k) ?_
      refine Goes.step (B := T33.setTop (mkF m 141 #[.val (.int i0), .val (.int i1), .val (.int (2 : Int32)), .val (.int (1 : Int32)), .val (.ref a_CHAIN_MAIL), .val (.int (1 : Int32)), .val (.int (1 : Int32))] [(.int (1 : Int32))])) (fun _ k => XS.goto X33.here hx rfl (pc0 := 137) (pc' := 141) rfl (hb hby at_137) (by decide) (by decide) k) ?_
      exact Goes.retN X33 hx eh33 (t := .boolean) Bd.returns (by simp) hlk (hb hby at_141) (by decide) (by decide) (⟨rfl, N33⟩)
  · refine Goes.step (B := s₁.setTop (mkF m 8 #[.val (.int i0), .val (.int i1), .val (.int (3 : Int32)), .unset, .unset, .unset, .unset] [])) (fun _ k => XS.istoreN X0.here hx rfl (hb hby at_7) rfl (l' := #[.val (.int i0), .val (.int i1), .val (.int (3 : Int32)), .unset, .unset, .unset, .unset]) rfl k) ?_
    refine Goes.step (B := s₁.setTop (mkF m 9 #[.val (.int i0), .val (.int i1), .val (.int (3 : Int32)), .unset, .unset, .unset, .unset] [(.int i1)])) (fun _ k => XS.iloadN X0.here hx rfl (hb hby at_8) rfl k) ?_
    refine Goes.step (B := s₁.setTop (mkF m 10 #[.val (.int i0), .val (.int i1), .val (.int (3 : Int32)), .unset, .unset, .unset, .unset] [(.int (1 : Int32)), (.int i1)])) (fun _ k => XS.iconst X0.here hx rfl (hb hby at_9) k) ?_
    refine Goes.step (B := s₁.setTop (mkF m 11 #[.val (.int i0), .val (.int i1), .val (.int (3 : Int32)), .unset, .unset, .unset, .unset] [(.int (i1 &&& (1 : Int32)))])) (fun _ k => XS.iand X0.here hx rfl (hb hby at_10) rfl k) ?_
    obtain ⟨bv, hbv⟩ : ∃ z, z = (i1 &&& (1 : Int32)) := ⟨_, rfl⟩
    rw [← hbv]
    rcases own_bit hbv with rfl | rfl
    · refine Goes.step (B := s₁.setTop (mkF m 18 #[.val (.int i0), .val (.int i1), .val (.int (3 : Int32)), .unset, .unset, .unset, .unset] [])) (fun _ k => XS.ifYes X0.here hx rfl (pc0 := 11) (pc' := 18) rfl (hb hby at_11) rfl ((if0 _ _).trans (teq (by decide)).1) (by decide) (by decide) k) ?_
      refine Goes.step (B := s₁.setTop (mkF m 19 #[.val (.int i0), .val (.int i1), .val (.int (3 : Int32)), .unset, .unset, .unset, .unset] [(.int (0 : Int32))])) (fun _ k => XS.iconst X0.here hx rfl (hb hby at_18) k) ?_
      refine Goes.step (B := s₁.setTop (mkF m 20 #[.val (.int i0), .val (.int i1), .val (.int (3 : Int32)), .val (.int (0 : Int32)), .unset, .unset, .unset] [])) (fun _ k => XS.istoreN X0.here hx rfl (hb hby at_19) rfl (l' := #[.val (.int i0), .val (.int i1), .val (.int (3 : Int32)), .val (.int (0 : Int32)), .unset, .unset, .unset]) rfl k) ?_
      refine Goes.step (B := s₁.setTop (mkF m 21 #[.val (.int i0), .val (.int i1), .val (.int (3 : Int32)), .val (.int (0 : Int32)), .unset, .unset, .unset] [(.int (3 : Int32))])) (fun _ k => XS.iloadN X0.here hx rfl (hb hby at_20) rfl k) ?_
      refine Goes.step (B := s₁.setTop (mkF m 35 #[.val (.int i0), .val (.int i1), .val (.int (3 : Int32)), .val (.int (0 : Int32)), .unset, .unset, .unset] [])) (fun _ k => XS.ifYes X0.here hx rfl (pc0 := 21) (pc' := 35) rfl (hb hby at_21) rfl ((if0 _ _).trans (feq (by decide)).2) (by decide) (by decide) k) ?_
      refine Goes.step (B := s₁.setTop (mkF m 36 #[.val (.int i0), .val (.int i1), .val (.int (3 : Int32)), .val (.int (0 : Int32)), .unset, .unset, .unset] [(.int (3 : Int32))])) (fun _ k => XS.iloadN X0.here hx rfl (hb hby at_35) rfl k) ?_
      refine Goes.step (B := s₁.setTop (mkF m 37 #[.val (.int i0), .val (.int i1), .val (.int (3 : Int32)), .val (.int (0 : Int32)), .unset, .unset, .unset] [(.int (1 : Int32)), (.int (3 : Int32))])) (fun _ k => XS.iconst X0.here hx rfl (hb hby at_36) k) ?_
      refine Goes.step (B := s₁.setTop (mkF m 51 #[.val (.int i0), .val (.int i1), .val (.int (3 : Int32)), .val (.int (0 : Int32)), .unset, .unset, .unset] [])) (fun _ k => XS.icmpYes X0.here hx rfl (pc0 := 37) (pc' := 51) rfl (hb hby at_37) rfl (feq (by decide)).2 (by decide) (by decide) k) ?_
      refine Goes.step (B := s₁.setTop (mkF m 52 #[.val (.int i0), .val (.int i1), .val (.int (3 : Int32)), .val (.int (0 : Int32)), .unset, .unset, .unset] [(.int (3 : Int32))])) (fun _ k => XS.iloadN X0.here hx rfl (hb hby at_51) rfl k) ?_
      refine Goes.step (B := s₁.setTop (mkF m 53 #[.val (.int i0), .val (.int i1), .val (.int (3 : Int32)), .val (.int (0 : Int32)), .unset, .unset, .unset] [(.int (2 : Int32)), (.int (3 : Int32))])) (fun _ k => XS.iconst X0.here hx rfl (hb hby at_52) k) ?_
      refine Goes.step (B := s₁.setTop (mkF m 67 #[.val (.int i0), .val (.int i1), .val (.int (3 : Int32)), .val (.int (0 : Int32)), .unset, .unset, .unset] [])) (fun _ k => XS.icmpYes X0.here hx rfl (pc0 := 53) (pc' := 67) rfl (hb hby at_53) rfl (feq (by decide)).2 (by decide) (by decide) k) ?_
      refine Goes.step (B := s₁.setTop (mkF m 68 #[.val (.int i0), .val (.int i1), .val (.int (3 : Int32)), .val (.int (0 : Int32)), .unset, .unset, .unset] [(.int (3 : Int32))])) (fun _ k => XS.iloadN X0.here hx rfl (hb hby at_67) rfl k) ?_
      refine Goes.step (B := s₁.setTop (mkF m 69 #[.val (.int i0), .val (.int i1), .val (.int (3 : Int32)), .val (.int (0 : Int32)), .unset, .unset, .unset] [(.int (3 : Int32)), (.int (3 : Int32))])) (fun _ k => XS.iconst X0.here hx rfl (hb hby at_68) k) ?_
      refine Goes.step (B := s₁.setTop (mkF m 72 #[.val (.int i0), .val (.int i1), .val (.int (3 : Int32)), .val (.int (0 : Int32)), .unset, .unset, .unset] [])) (fun _ k => XS.icmpNo X0.here hx rfl (hb hby at_69) rfl (teq (by decide)).2 k) ?_
      have f37 := S_SPLINT_MAIL.ext O0.2
      obtain ⟨T38, X38, e38, st38⟩ := getS2 X0 hx hZ hown (host := "") (Or.inl (hw _ (List.mem_of_getElem? (i := 21) rfl))) Via.refl e0 f37 (g := (mkF m 72 #[.val (.int i0), .val (.int i1), .val (.int (3 : Int32)), .val (.int (0 : Int32)), .unset, .unset, .unset] [])) rfl (hb hby at_72)
      refine Goes.step (B := T38.setTop (mkF m 75 #[.val (.int i0), .val (.int i1), .val (.int (3 : Int32)), .val (.int (0 : Int32)), .unset, .unset, .unset] [(.ref a_SPLINT_MAIL)])) st38 ?_
      refine Goes.step (B := T38.setTop (mkF m 77 #[.val (.int i0), .val (.int i1), .val (.int (3 : Int32)), .val (.int (0 : Int32)), .val (.ref a_SPLINT_MAIL), .unset, .unset] [])) (fun _ k => XS.astore X38.here hx rfl (hb hby at_75) rfl rfl (l' := #[.val (.int i0), .val (.int i1), .val (.int (3 : Int32)), .val (.int (0 : Int32)), .val (.ref a_SPLINT_MAIL), .unset, .unset]) rfl k) ?_
      refine Goes.step (B := T38.setTop (mkF m 78 #[.val (.int i0), .val (.int i1), .val (.int (3 : Int32)), .val (.int (0 : Int32)), .val (.ref a_SPLINT_MAIL), .unset, .unset] [(.int (1 : Int32))])) (fun _ k => XS.iconst X38.here hx rfl (hb hby at_77) k) ?_
      refine Goes.step (B := T38.setTop (mkF m 80 #[.val (.int i0), .val (.int i1), .val (.int (3 : Int32)), .val (.int (0 : Int32)), .val (.ref a_SPLINT_MAIL), .val (.int (1 : Int32)), .unset] [])) (fun _ k => XS.istore X38.here hx rfl (hb hby at_78) rfl (l' := #[.val (.int i0), .val (.int i1), .val (.int (3 : Int32)), .val (.int (0 : Int32)), .val (.ref a_SPLINT_MAIL), .val (.int (1 : Int32)), .unset]) rfl k) ?_
      refine Goes.step (B := T38.setTop (mkF m 107 #[.val (.int i0), .val (.int i1), .val (.int (3 : Int32)), .val (.int (0 : Int32)), .val (.ref a_SPLINT_MAIL), .val (.int (1 : Int32)), .unset] [])) (fun _ k => XS.goto X38.here hx rfl (pc0 := 80) (pc' := 107) rfl (hb hby at_80) (by decide) (by decide) k) ?_
      refine Goes.step (B := T38.setTop (mkF m 108 #[.val (.int i0), .val (.int i1), .val (.int (3 : Int32)), .val (.int (0 : Int32)), .val (.ref a_SPLINT_MAIL), .val (.int (1 : Int32)), .unset] [(.int (3 : Int32))])) (fun _ k => XS.iloadN X38.here hx rfl (hb hby at_107) rfl k) ?_
      refine Goes.step (B := T38.setTop (mkF m 121 #[.val (.int i0), .val (.int i1), .val (.int (3 : Int32)), .val (.int (0 : Int32)), .val (.ref a_SPLINT_MAIL), .val (.int (1 : Int32)), .unset] [])) (fun _ k => XS.ifYes X38.here hx rfl (pc0 := 108) (pc' := 121) rfl (hb hby at_108) rfl ((if0 _ _).trans (feq (by decide)).2) (by decide) (by decide) k) ?_
      refine Goes.step (B := T38.setTop (mkF m 123 #[.val (.int i0), .val (.int i1), .val (.int (3 : Int32)), .val (.int (0 : Int32)), .val (.ref a_SPLINT_MAIL), .val (.int (1 : Int32)), .unset] [(.int (1 : Int32))])) (fun _ k => XS.iload X38.here hx rfl (hb hby at_121) rfl k) ?_
      refine Goes.step (B := T38.setTop (mkF m 125 #[.val (.int i0), .val (.int i1), .val (.int (3 : Int32)), .val (.int (0 : Int32)), .val (.ref a_SPLINT_MAIL), .val (.int (1 : Int32)), .val (.int (1 : Int32))] [])) (fun _ k => XS.istore X38.here hx rfl (hb hby at_123) rfl (l' := #[.val (.int i0), .val (.int i1), .val (.int (3 : Int32)), .val (.int (0 : Int32)), .val (.ref a_SPLINT_MAIL), .val (.int (1 : Int32)), .val (.int (1 : Int32))]) rfl k) ?_
      refine Goes.step (B := T38.setTop (mkF m 127 #[.val (.int i0), .val (.int i1), .val (.int (3 : Int32)), .val (.int (0 : Int32)), .val (.ref a_SPLINT_MAIL), .val (.int (1 : Int32)), .val (.int (1 : Int32))] [(.ref a_SPLINT_MAIL)])) (fun _ k => XS.aload X38.here hx rfl (hb hby at_125) rfl rfl k) ?_
      refine Goes.step (B := T38.setTop (mkF m 128 #[.val (.int i0), .val (.int i1), .val (.int (3 : Int32)), .val (.int (0 : Int32)), .val (.ref a_SPLINT_MAIL), .val (.int (1 : Int32)), .val (.int (1 : Int32))] [(.int (0 : Int32)), (.ref a_SPLINT_MAIL)])) (fun _ k => XS.iloadN X38.here hx rfl (hb hby at_127) rfl k) ?_
      have f40 := F_SPLINT_MAIL_readyOnly.ext O0.2
      have f41 := F_SPLINT_MAIL_deflection.ext O0.2
      have f42 := E_SPLINT_MAIL.ext O0.2
      obtain ⟨cq39, kq39, qa39, qb39, qc39⟩ := isOf hZ e38 f42
      obtain ⟨_, _, ⟨T39, L39, k39, n39⟩, -, X39, ⟨Lc39, hQ39, l39, y39, z39⟩, st39⟩ := X38.virtualBack hx (y := (⟨"com/example/roundkeeper/roundkeeper/rulesets/sealedorders/Armor", "deflection", "(Z)I"⟩ : MethodName)) (z := (⟨"com/example/roundkeeper/roundkeeper/rulesets/sealedorders/Armor", "deflection", "(Z)I"⟩ : MethodName)) hown (mvT hZ (hw _ (List.mem_of_getElem? (i := 4) rfl))) (mvT hZ (hw _ (List.mem_of_getElem? (i := 5) rfl))) (notFace_of_selects (args := #[]) (mvT hZ (hw _ (List.mem_of_getElem? (i := 7) rfl)))) (mvT hZ (hw _ (List.mem_of_getElem? (i := 7) rfl))) (mvT hZ (hw _ (List.mem_of_getElem? (i := 6) rfl))) (by decide) (backOf (W := 0) (rm1 l Z a0 hw [] a_SPLINT_MAIL (0 : Int32) (0 : Int32) (1 : Int32) h0 n0 O0 (by decide) (by decide) f40 f41) hZ (hw _ (List.mem_of_getElem? (i := 8) rfl)) (hw _ (List.mem_of_getElem? (i := 2) rfl)) (by decide) (by decide)) qa39 qc39 (g := (mkF m 128 #[.val (.int i0), .val (.int i1), .val (.int (3 : Int32)), .val (.int (0 : Int32)), .val (.ref a_SPLINT_MAIL), .val (.int (1 : Int32)), .val (.int (1 : Int32))] [(.int (0 : Int32)), (.ref a_SPLINT_MAIL)])) rfl (by rw [hml]; rfl) (Steps.refl _) (argsL := [(.int (0 : Int32))]) (rest := []) (lenOf pd_0 rfl) rfl (by show 2 * 0 + _ ≤ _; exact Nat.le_of_eq rfl) (hb hby at_128) (fun _ _ => ⟨rfl, e38, (by decide : 0 + 0 ≤ _), (by decide : 0 + 0 ≤ _)⟩)
      dsimp only [Pt.U, Pt.locs, Pt.cells, Pt.slots] at X39 l39 y39 z39 st39 hQ39
      subst l39 y39 z39
      obtain ⟨rfl, Nq39, eh39⟩ := hQ39
      have N39 := Fr.app N0 Nq39
      refine Goes.via (B := T39.setTop (mkF m 131 #[.val (.int i0), .val (.int i1), .val (.int (3 : Int32)), .val (.int (0 : Int32)), .val (.ref a_SPLINT_MAIL), .val (.int (1 : Int32)), .val (.int (1 : Int32))] [(.int (own_def (0 : Int32) (0 : Int32) (1 : Int32)))])) st39 ?_
      rw [(by decide : (own_def (0 : Int32) (0 : Int32) (1 : Int32)) = (1 : Int32))]
      refine Goes.step (B := T39.setTop (mkF m 133 #[.val (.int i0), .val (.int i1), .val (.int (3 : Int32)), .val (.int (0 : Int32)), .val (.ref a_SPLINT_MAIL), .val (.int (1 : Int32)), .val (.int (1 : Int32))] [(.int (1 : Int32)), (.int (1 : Int32))])) (fun _ k => XS.iload X39.here hx rfl (hb hby at_131) rfl k) ?_
      refine Goes.step (B := T39.setTop (mkF m 136 #[.val (.int i0), .val (.int i1), .val (.int (3 : Int32)), .val (.int (0 : Int32)), .val (.ref a_SPLINT_MAIL), .val (.int (1 : Int32)), .val (.int (1 : Int32))] [])) (fun _ k => XS.icmpNo X39.here hx rfl (hb hby at_133) rfl (teq (by decide)).2 k) ?_
      refine Goes.step (B := T39.setTop (mkF m 137 #[.val (.int i0), .val (.int i1), .val (.int (3 : Int32)), .val (.int (0 : Int32)), .val (.ref a_SPLINT_MAIL), .val (.int (1 : Int32)), .val (.int (1 : Int32))] [(.int (1 : Int32))])) (fun _ k => XS.iconst X39.here hx rfl (hb hby at_136) k) ?_
      refine Goes.step (B := T39.setTop (mkF m 141 #[.val (.int i0), .val (.int i1), .val (.int (3 : Int32)), .val (.int (0 : Int32)), .val (.ref a_SPLINT_MAIL), .val (.int (1 : Int32)), .val (.int (1 : Int32))] [(.int (1 : Int32))])) (fun _ k => XS.goto X39.here hx rfl (pc0 := 137) (pc' := 141) rfl (hb hby at_137) (by decide) (by decide) k) ?_
      exact Goes.retN X39 hx eh39 (t := .boolean) Bd.returns (by simp) hlk (hb hby at_141) (by decide) (by decide) (⟨rfl, N39⟩)
    · refine Goes.step (B := s₁.setTop (mkF m 14 #[.val (.int i0), .val (.int i1), .val (.int (3 : Int32)), .unset, .unset, .unset, .unset] [])) (fun _ k => XS.ifNo X0.here hx rfl (hb hby at_11) rfl ((if0 _ _).trans (feq (by decide)).1) k) ?_
      refine Goes.step (B := s₁.setTop (mkF m 15 #[.val (.int i0), .val (.int i1), .val (.int (3 : Int32)), .unset, .unset, .unset, .unset] [(.int (1 : Int32))])) (fun _ k => XS.iconst X0.here hx rfl (hb hby at_14) k) ?_
      refine Goes.step (B := s₁.setTop (mkF m 19 #[.val (.int i0), .val (.int i1), .val (.int (3 : Int32)), .unset, .unset, .unset, .unset] [(.int (1 : Int32))])) (fun _ k => XS.goto X0.here hx rfl (pc0 := 15) (pc' := 19) rfl (hb hby at_15) (by decide) (by decide) k) ?_
      refine Goes.step (B := s₁.setTop (mkF m 20 #[.val (.int i0), .val (.int i1), .val (.int (3 : Int32)), .val (.int (1 : Int32)), .unset, .unset, .unset] [])) (fun _ k => XS.istoreN X0.here hx rfl (hb hby at_19) rfl (l' := #[.val (.int i0), .val (.int i1), .val (.int (3 : Int32)), .val (.int (1 : Int32)), .unset, .unset, .unset]) rfl k) ?_
      refine Goes.step (B := s₁.setTop (mkF m 21 #[.val (.int i0), .val (.int i1), .val (.int (3 : Int32)), .val (.int (1 : Int32)), .unset, .unset, .unset] [(.int (3 : Int32))])) (fun _ k => XS.iloadN X0.here hx rfl (hb hby at_20) rfl k) ?_
      refine Goes.step (B := s₁.setTop (mkF m 35 #[.val (.int i0), .val (.int i1), .val (.int (3 : Int32)), .val (.int (1 : Int32)), .unset, .unset, .unset] [])) (fun _ k => XS.ifYes X0.here hx rfl (pc0 := 21) (pc' := 35) rfl (hb hby at_21) rfl ((if0 _ _).trans (feq (by decide)).2) (by decide) (by decide) k) ?_
      refine Goes.step (B := s₁.setTop (mkF m 36 #[.val (.int i0), .val (.int i1), .val (.int (3 : Int32)), .val (.int (1 : Int32)), .unset, .unset, .unset] [(.int (3 : Int32))])) (fun _ k => XS.iloadN X0.here hx rfl (hb hby at_35) rfl k) ?_
      refine Goes.step (B := s₁.setTop (mkF m 37 #[.val (.int i0), .val (.int i1), .val (.int (3 : Int32)), .val (.int (1 : Int32)), .unset, .unset, .unset] [(.int (1 : Int32)), (.int (3 : Int32))])) (fun _ k => XS.iconst X0.here hx rfl (hb hby at_36) k) ?_
      refine Goes.step (B := s₁.setTop (mkF m 51 #[.val (.int i0), .val (.int i1), .val (.int (3 : Int32)), .val (.int (1 : Int32)), .unset, .unset, .unset] [])) (fun _ k => XS.icmpYes X0.here hx rfl (pc0 := 37) (pc' := 51) rfl (hb hby at_37) rfl (feq (by decide)).2 (by decide) (by decide) k) ?_
      refine Goes.step (B := s₁.setTop (mkF m 52 #[.val (.int i0), .val (.int i1), .val (.int (3 : Int32)), .val (.int (1 : Int32)), .unset, .unset, .unset] [(.int (3 : Int32))])) (fun _ k => XS.iloadN X0.here hx rfl (hb hby at_51) rfl k) ?_
      refine Goes.step (B := s₁.setTop (mkF m 53 #[.val (.int i0), .val (.int i1), .val (.int (3 : Int32)), .val (.int (1 : Int32)), .unset, .unset, .unset] [(.int (2 : Int32)), (.int (3 : Int32))])) (fun _ k => XS.iconst X0.here hx rfl (hb hby at_52) k) ?_
      refine Goes.step (B := s₁.setTop (mkF m 67 #[.val (.int i0), .val (.int i1), .val (.int (3 : Int32)), .val (.int (1 : Int32)), .unset, .unset, .unset] [])) (fun _ k => XS.icmpYes X0.here hx rfl (pc0 := 53) (pc' := 67) rfl (hb hby at_53) rfl (feq (by decide)).2 (by decide) (by decide) k) ?_
      refine Goes.step (B := s₁.setTop (mkF m 68 #[.val (.int i0), .val (.int i1), .val (.int (3 : Int32)), .val (.int (1 : Int32)), .unset, .unset, .unset] [(.int (3 : Int32))])) (fun _ k => XS.iloadN X0.here hx rfl (hb hby at_67) rfl k) ?_
      refine Goes.step (B := s₁.setTop (mkF m 69 #[.val (.int i0), .val (.int i1), .val (.int (3 : Int32)), .val (.int (1 : Int32)), .unset, .unset, .unset] [(.int (3 : Int32)), (.int (3 : Int32))])) (fun _ k => XS.iconst X0.here hx rfl (hb hby at_68) k) ?_
      refine Goes.step (B := s₁.setTop (mkF m 72 #[.val (.int i0), .val (.int i1), .val (.int (3 : Int32)), .val (.int (1 : Int32)), .unset, .unset, .unset] [])) (fun _ k => XS.icmpNo X0.here hx rfl (hb hby at_69) rfl (teq (by decide)).2 k) ?_
      have f43 := S_SPLINT_MAIL.ext O0.2
      obtain ⟨T44, X44, e44, st44⟩ := getS2 X0 hx hZ hown (host := "") (Or.inl (hw _ (List.mem_of_getElem? (i := 21) rfl))) Via.refl e0 f43 (g := (mkF m 72 #[.val (.int i0), .val (.int i1), .val (.int (3 : Int32)), .val (.int (1 : Int32)), .unset, .unset, .unset] [])) rfl (hb hby at_72)
      refine Goes.step (B := T44.setTop (mkF m 75 #[.val (.int i0), .val (.int i1), .val (.int (3 : Int32)), .val (.int (1 : Int32)), .unset, .unset, .unset] [(.ref a_SPLINT_MAIL)])) st44 ?_
      refine Goes.step (B := T44.setTop (mkF m 77 #[.val (.int i0), .val (.int i1), .val (.int (3 : Int32)), .val (.int (1 : Int32)), .val (.ref a_SPLINT_MAIL), .unset, .unset] [])) (fun _ k => XS.astore X44.here hx rfl (hb hby at_75) rfl rfl (l' := #[.val (.int i0), .val (.int i1), .val (.int (3 : Int32)), .val (.int (1 : Int32)), .val (.ref a_SPLINT_MAIL), .unset, .unset]) rfl k) ?_
      refine Goes.step (B := T44.setTop (mkF m 78 #[.val (.int i0), .val (.int i1), .val (.int (3 : Int32)), .val (.int (1 : Int32)), .val (.ref a_SPLINT_MAIL), .unset, .unset] [(.int (1 : Int32))])) (fun _ k => XS.iconst X44.here hx rfl (hb hby at_77) k) ?_
      refine Goes.step (B := T44.setTop (mkF m 80 #[.val (.int i0), .val (.int i1), .val (.int (3 : Int32)), .val (.int (1 : Int32)), .val (.ref a_SPLINT_MAIL), .val (.int (1 : Int32)), .unset] [])) (fun _ k => XS.istore X44.here hx rfl (hb hby at_78) rfl (l' := #[.val (.int i0), .val (.int i1), .val (.int (3 : Int32)), .val (.int (1 : Int32)), .val (.ref a_SPLINT_MAIL), .val (.int (1 : Int32)), .unset]) rfl k) ?_
      refine Goes.step (B := T44.setTop (mkF m 107 #[.val (.int i0), .val (.int i1), .val (.int (3 : Int32)), .val (.int (1 : Int32)), .val (.ref a_SPLINT_MAIL), .val (.int (1 : Int32)), .unset] [])) (fun _ k => XS.goto X44.here hx rfl (pc0 := 80) (pc' := 107) rfl (hb hby at_80) (by decide) (by decide) k) ?_
      refine Goes.step (B := T44.setTop (mkF m 108 #[.val (.int i0), .val (.int i1), .val (.int (3 : Int32)), .val (.int (1 : Int32)), .val (.ref a_SPLINT_MAIL), .val (.int (1 : Int32)), .unset] [(.int (3 : Int32))])) (fun _ k => XS.iloadN X44.here hx rfl (hb hby at_107) rfl k) ?_
      refine Goes.step (B := T44.setTop (mkF m 121 #[.val (.int i0), .val (.int i1), .val (.int (3 : Int32)), .val (.int (1 : Int32)), .val (.ref a_SPLINT_MAIL), .val (.int (1 : Int32)), .unset] [])) (fun _ k => XS.ifYes X44.here hx rfl (pc0 := 108) (pc' := 121) rfl (hb hby at_108) rfl ((if0 _ _).trans (feq (by decide)).2) (by decide) (by decide) k) ?_
      refine Goes.step (B := T44.setTop (mkF m 123 #[.val (.int i0), .val (.int i1), .val (.int (3 : Int32)), .val (.int (1 : Int32)), .val (.ref a_SPLINT_MAIL), .val (.int (1 : Int32)), .unset] [(.int (1 : Int32))])) (fun _ k => XS.iload X44.here hx rfl (hb hby at_121) rfl k) ?_
      refine Goes.step (B := T44.setTop (mkF m 125 #[.val (.int i0), .val (.int i1), .val (.int (3 : Int32)), .val (.int (1 : Int32)), .val (.ref a_SPLINT_MAIL), .val (.int (1 : Int32)), .val (.int (1 : Int32))] [])) (fun _ k => XS.istore X44.here hx rfl (hb hby at_123) rfl (l' := #[.val (.int i0), .val (.int i1), .val (.int (3 : Int32)), .val (.int (1 : Int32)), .val (.ref a_SPLINT_MAIL), .val (.int (1 : Int32)), .val (.int (1 : Int32))]) rfl k) ?_
      refine Goes.step (B := T44.setTop (mkF m 127 #[.val (.int i0), .val (.int i1), .val (.int (3 : Int32)), .val (.int (1 : Int32)), .val (.ref a_SPLINT_MAIL), .val (.int (1 : Int32)), .val (.int (1 : Int32))] [(.ref a_SPLINT_MAIL)])) (fun _ k => XS.aload X44.here hx rfl (hb hby at_125) rfl rfl k) ?_
      refine Goes.step (B := T44.setTop (mkF m 128 #[.val (.int i0), .val (.int i1), .val (.int (3 : Int32)), .val (.int (1 : Int32)), .val (.ref a_SPLINT_MAIL), .val (.int (1 : Int32)), .val (.int (1 : Int32))] [(.int (1 : Int32)), (.ref a_SPLINT_MAIL)])) (fun _ k => XS.iloadN X44.here hx rfl (hb hby at_127) rfl k) ?_
      have f46 := F_SPLINT_MAIL_readyOnly.ext O0.2
      have f47 := F_SPLINT_MAIL_deflection.ext O0.2
      have f48 := E_SPLINT_MAIL.ext O0.2
      obtain ⟨cq45, kq45, qa45, qb45, qc45⟩ := isOf hZ e44 f48
      obtain ⟨_, _, ⟨T45, L45, k45, n45⟩, -, X45, ⟨Lc45, hQ45, l45, y45, z45⟩, st45⟩ := X44.virtualBack hx (y := (⟨"com/example/roundkeeper/roundkeeper/rulesets/sealedorders/Armor", "deflection", "(Z)I"⟩ : MethodName)) (z := (⟨"com/example/roundkeeper/roundkeeper/rulesets/sealedorders/Armor", "deflection", "(Z)I"⟩ : MethodName)) hown (mvT hZ (hw _ (List.mem_of_getElem? (i := 4) rfl))) (mvT hZ (hw _ (List.mem_of_getElem? (i := 5) rfl))) (notFace_of_selects (args := #[]) (mvT hZ (hw _ (List.mem_of_getElem? (i := 7) rfl)))) (mvT hZ (hw _ (List.mem_of_getElem? (i := 7) rfl))) (mvT hZ (hw _ (List.mem_of_getElem? (i := 6) rfl))) (by decide) (backOf (W := 0) (rm1 l Z a0 hw [] a_SPLINT_MAIL (1 : Int32) (0 : Int32) (1 : Int32) h0 n0 O0 (by decide) (by decide) f46 f47) hZ (hw _ (List.mem_of_getElem? (i := 8) rfl)) (hw _ (List.mem_of_getElem? (i := 2) rfl)) (by decide) (by decide)) qa45 qc45 (g := (mkF m 128 #[.val (.int i0), .val (.int i1), .val (.int (3 : Int32)), .val (.int (1 : Int32)), .val (.ref a_SPLINT_MAIL), .val (.int (1 : Int32)), .val (.int (1 : Int32))] [(.int (1 : Int32)), (.ref a_SPLINT_MAIL)])) rfl (by rw [hml]; rfl) (Steps.refl _) (argsL := [(.int (1 : Int32))]) (rest := []) (lenOf pd_0 rfl) rfl (by show 2 * 0 + _ ≤ _; exact Nat.le_of_eq rfl) (hb hby at_128) (fun _ _ => ⟨rfl, e44, (by decide : 0 + 0 ≤ _), (by decide : 0 + 0 ≤ _)⟩)
      dsimp only [Pt.U, Pt.locs, Pt.cells, Pt.slots] at X45 l45 y45 z45 st45 hQ45
      subst l45 y45 z45
      obtain ⟨rfl, Nq45, eh45⟩ := hQ45
      have N45 := Fr.app N0 Nq45
      refine Goes.via (B := T45.setTop (mkF m 131 #[.val (.int i0), .val (.int i1), .val (.int (3 : Int32)), .val (.int (1 : Int32)), .val (.ref a_SPLINT_MAIL), .val (.int (1 : Int32)), .val (.int (1 : Int32))] [(.int (own_def (1 : Int32) (0 : Int32) (1 : Int32)))])) st45 ?_
      rw [(by decide : (own_def (1 : Int32) (0 : Int32) (1 : Int32)) = (1 : Int32))]
      refine Goes.step (B := T45.setTop (mkF m 133 #[.val (.int i0), .val (.int i1), .val (.int (3 : Int32)), .val (.int (1 : Int32)), .val (.ref a_SPLINT_MAIL), .val (.int (1 : Int32)), .val (.int (1 : Int32))] [(.int (1 : Int32)), (.int (1 : Int32))])) (fun _ k => XS.iload X45.here hx rfl (hb hby at_131) rfl k) ?_
      refine Goes.step (B := T45.setTop (mkF m 136 #[.val (.int i0), .val (.int i1), .val (.int (3 : Int32)), .val (.int (1 : Int32)), .val (.ref a_SPLINT_MAIL), .val (.int (1 : Int32)), .val (.int (1 : Int32))] [])) (fun _ k => XS.icmpNo X45.here hx rfl (hb hby at_133) rfl (teq (by decide)).2 k) ?_
      refine Goes.step (B := T45.setTop (mkF m 137 #[.val (.int i0), .val (.int i1), .val (.int (3 : Int32)), .val (.int (1 : Int32)), .val (.ref a_SPLINT_MAIL), .val (.int (1 : Int32)), .val (.int (1 : Int32))] [(.int (1 : Int32))])) (fun _ k => XS.iconst X45.here hx rfl (hb hby at_136) k) ?_
      refine Goes.step (B := T45.setTop (mkF m 141 #[.val (.int i0), .val (.int i1), .val (.int (3 : Int32)), .val (.int (1 : Int32)), .val (.ref a_SPLINT_MAIL), .val (.int (1 : Int32)), .val (.int (1 : Int32))] [(.int (1 : Int32))])) (fun _ k => XS.goto X45.here hx rfl (pc0 := 137) (pc' := 141) rfl (hb hby at_137) (by decide) (by decide) k) ?_
      exact Goes.retN X45 hx eh45 (t := .boolean) Bd.returns (by simp) hlk (hb hby at_141) (by decide) (by decide) (⟨rfl, N45⟩)
  · refine Goes.step (B := s₁.setTop (mkF m 8 #[.val (.int i0), .val (.int i1), .val (.int (4 : Int32)), .unset, .unset, .unset, .unset] [])) (fun _ k => XS.istoreN X0.here hx rfl (hb hby at_7) rfl (l' := #[.val (.int i0), .val (.int i1), .val (.int (4 : Int32)), .unset, .unset, .unset, .unset]) rfl k) ?_
    refine Goes.step (B := s₁.setTop (mkF m 9 #[.val (.int i0), .val (.int i1), .val (.int (4 : Int32)), .unset, .unset, .unset, .unset] [(.int i1)])) (fun _ k => XS.iloadN X0.here hx rfl (hb hby at_8) rfl k) ?_
    refine Goes.step (B := s₁.setTop (mkF m 10 #[.val (.int i0), .val (.int i1), .val (.int (4 : Int32)), .unset, .unset, .unset, .unset] [(.int (1 : Int32)), (.int i1)])) (fun _ k => XS.iconst X0.here hx rfl (hb hby at_9) k) ?_
    refine Goes.step (B := s₁.setTop (mkF m 11 #[.val (.int i0), .val (.int i1), .val (.int (4 : Int32)), .unset, .unset, .unset, .unset] [(.int (i1 &&& (1 : Int32)))])) (fun _ k => XS.iand X0.here hx rfl (hb hby at_10) rfl k) ?_
    obtain ⟨bv, hbv⟩ : ∃ z, z = (i1 &&& (1 : Int32)) := ⟨_, rfl⟩
    rw [← hbv]
    rcases own_bit hbv with rfl | rfl
    · refine Goes.step (B := s₁.setTop (mkF m 18 #[.val (.int i0), .val (.int i1), .val (.int (4 : Int32)), .unset, .unset, .unset, .unset] [])) (fun _ k => XS.ifYes X0.here hx rfl (pc0 := 11) (pc' := 18) rfl (hb hby at_11) rfl ((if0 _ _).trans (teq (by decide)).1) (by decide) (by decide) k) ?_
      refine Goes.step (B := s₁.setTop (mkF m 19 #[.val (.int i0), .val (.int i1), .val (.int (4 : Int32)), .unset, .unset, .unset, .unset] [(.int (0 : Int32))])) (fun _ k => XS.iconst X0.here hx rfl (hb hby at_18) k) ?_
      refine Goes.step (B := s₁.setTop (mkF m 20 #[.val (.int i0), .val (.int i1), .val (.int (4 : Int32)), .val (.int (0 : Int32)), .unset, .unset, .unset] [])) (fun _ k => XS.istoreN X0.here hx rfl (hb hby at_19) rfl (l' := #[.val (.int i0), .val (.int i1), .val (.int (4 : Int32)), .val (.int (0 : Int32)), .unset, .unset, .unset]) rfl k) ?_
      refine Goes.step (B := s₁.setTop (mkF m 21 #[.val (.int i0), .val (.int i1), .val (.int (4 : Int32)), .val (.int (0 : Int32)), .unset, .unset, .unset] [(.int (4 : Int32))])) (fun _ k => XS.iloadN X0.here hx rfl (hb hby at_20) rfl k) ?_
      refine Goes.step (B := s₁.setTop (mkF m 35 #[.val (.int i0), .val (.int i1), .val (.int (4 : Int32)), .val (.int (0 : Int32)), .unset, .unset, .unset] [])) (fun _ k => XS.ifYes X0.here hx rfl (pc0 := 21) (pc' := 35) rfl (hb hby at_21) rfl ((if0 _ _).trans (feq (by decide)).2) (by decide) (by decide) k) ?_
      refine Goes.step (B := s₁.setTop (mkF m 36 #[.val (.int i0), .val (.int i1), .val (.int (4 : Int32)), .val (.int (0 : Int32)), .unset, .unset, .unset] [(.int (4 : Int32))])) (fun _ k => XS.iloadN X0.here hx rfl (hb hby at_35) rfl k) ?_
      refine Goes.step (B := s₁.setTop (mkF m 37 #[.val (.int i0), .val (.int i1), .val (.int (4 : Int32)), .val (.int (0 : Int32)), .unset, .unset, .unset] [(.int (1 : Int32)), (.int (4 : Int32))])) (fun _ k => XS.iconst X0.here hx rfl (hb hby at_36) k) ?_
      refine Goes.step (B := s₁.setTop (mkF m 51 #[.val (.int i0), .val (.int i1), .val (.int (4 : Int32)), .val (.int (0 : Int32)), .unset, .unset, .unset] [])) (fun _ k => XS.icmpYes X0.here hx rfl (pc0 := 37) (pc' := 51) rfl (hb hby at_37) rfl (feq (by decide)).2 (by decide) (by decide) k) ?_
      refine Goes.step (B := s₁.setTop (mkF m 52 #[.val (.int i0), .val (.int i1), .val (.int (4 : Int32)), .val (.int (0 : Int32)), .unset, .unset, .unset] [(.int (4 : Int32))])) (fun _ k => XS.iloadN X0.here hx rfl (hb hby at_51) rfl k) ?_
      refine Goes.step (B := s₁.setTop (mkF m 53 #[.val (.int i0), .val (.int i1), .val (.int (4 : Int32)), .val (.int (0 : Int32)), .unset, .unset, .unset] [(.int (2 : Int32)), (.int (4 : Int32))])) (fun _ k => XS.iconst X0.here hx rfl (hb hby at_52) k) ?_
      refine Goes.step (B := s₁.setTop (mkF m 67 #[.val (.int i0), .val (.int i1), .val (.int (4 : Int32)), .val (.int (0 : Int32)), .unset, .unset, .unset] [])) (fun _ k => XS.icmpYes X0.here hx rfl (pc0 := 53) (pc' := 67) rfl (hb hby at_53) rfl (feq (by decide)).2 (by decide) (by decide) k) ?_
      refine Goes.step (B := s₁.setTop (mkF m 68 #[.val (.int i0), .val (.int i1), .val (.int (4 : Int32)), .val (.int (0 : Int32)), .unset, .unset, .unset] [(.int (4 : Int32))])) (fun _ k => XS.iloadN X0.here hx rfl (hb hby at_67) rfl k) ?_
      refine Goes.step (B := s₁.setTop (mkF m 69 #[.val (.int i0), .val (.int i1), .val (.int (4 : Int32)), .val (.int (0 : Int32)), .unset, .unset, .unset] [(.int (3 : Int32)), (.int (4 : Int32))])) (fun _ k => XS.iconst X0.here hx rfl (hb hby at_68) k) ?_
      refine Goes.step (B := s₁.setTop (mkF m 83 #[.val (.int i0), .val (.int i1), .val (.int (4 : Int32)), .val (.int (0 : Int32)), .unset, .unset, .unset] [])) (fun _ k => XS.icmpYes X0.here hx rfl (pc0 := 69) (pc' := 83) rfl (hb hby at_69) rfl (feq (by decide)).2 (by decide) (by decide) k) ?_
      refine Goes.step (B := s₁.setTop (mkF m 84 #[.val (.int i0), .val (.int i1), .val (.int (4 : Int32)), .val (.int (0 : Int32)), .unset, .unset, .unset] [(.int (4 : Int32))])) (fun _ k => XS.iloadN X0.here hx rfl (hb hby at_83) rfl k) ?_
      refine Goes.step (B := s₁.setTop (mkF m 85 #[.val (.int i0), .val (.int i1), .val (.int (4 : Int32)), .val (.int (0 : Int32)), .unset, .unset, .unset] [(.int (4 : Int32)), (.int (4 : Int32))])) (fun _ k => XS.iconst X0.here hx rfl (hb hby at_84) k) ?_
      refine Goes.step (B := s₁.setTop (mkF m 88 #[.val (.int i0), .val (.int i1), .val (.int (4 : Int32)), .val (.int (0 : Int32)), .unset, .unset, .unset] [])) (fun _ k => XS.icmpNo X0.here hx rfl (hb hby at_85) rfl (teq (by decide)).2 k) ?_
      have f49 := S_HALF_PLATE.ext O0.2
      obtain ⟨T50, X50, e50, st50⟩ := getS2 X0 hx hZ hown (host := "") (Or.inl (hw _ (List.mem_of_getElem? (i := 15) rfl))) Via.refl e0 f49 (g := (mkF m 88 #[.val (.int i0), .val (.int i1), .val (.int (4 : Int32)), .val (.int (0 : Int32)), .unset, .unset, .unset] [])) rfl (hb hby at_88)
      refine Goes.step (B := T50.setTop (mkF m 91 #[.val (.int i0), .val (.int i1), .val (.int (4 : Int32)), .val (.int (0 : Int32)), .unset, .unset, .unset] [(.ref a_HALF_PLATE)])) st50 ?_
      refine Goes.step (B := T50.setTop (mkF m 93 #[.val (.int i0), .val (.int i1), .val (.int (4 : Int32)), .val (.int (0 : Int32)), .val (.ref a_HALF_PLATE), .unset, .unset] [])) (fun _ k => XS.astore X50.here hx rfl (hb hby at_91) rfl rfl (l' := #[.val (.int i0), .val (.int i1), .val (.int (4 : Int32)), .val (.int (0 : Int32)), .val (.ref a_HALF_PLATE), .unset, .unset]) rfl k) ?_
      refine Goes.step (B := T50.setTop (mkF m 94 #[.val (.int i0), .val (.int i1), .val (.int (4 : Int32)), .val (.int (0 : Int32)), .val (.ref a_HALF_PLATE), .unset, .unset] [(.int (2 : Int32))])) (fun _ k => XS.iconst X50.here hx rfl (hb hby at_93) k) ?_
      refine Goes.step (B := T50.setTop (mkF m 96 #[.val (.int i0), .val (.int i1), .val (.int (4 : Int32)), .val (.int (0 : Int32)), .val (.ref a_HALF_PLATE), .val (.int (2 : Int32)), .unset] [])) (fun _ k => XS.istore X50.here hx rfl (hb hby at_94) rfl (l' := #[.val (.int i0), .val (.int i1), .val (.int (4 : Int32)), .val (.int (0 : Int32)), .val (.ref a_HALF_PLATE), .val (.int (2 : Int32)), .unset]) rfl k) ?_
      refine Goes.step (B := T50.setTop (mkF m 107 #[.val (.int i0), .val (.int i1), .val (.int (4 : Int32)), .val (.int (0 : Int32)), .val (.ref a_HALF_PLATE), .val (.int (2 : Int32)), .unset] [])) (fun _ k => XS.goto X50.here hx rfl (pc0 := 96) (pc' := 107) rfl (hb hby at_96) (by decide) (by decide) k) ?_
      refine Goes.step (B := T50.setTop (mkF m 108 #[.val (.int i0), .val (.int i1), .val (.int (4 : Int32)), .val (.int (0 : Int32)), .val (.ref a_HALF_PLATE), .val (.int (2 : Int32)), .unset] [(.int (4 : Int32))])) (fun _ k => XS.iloadN X50.here hx rfl (hb hby at_107) rfl k) ?_
      refine Goes.step (B := T50.setTop (mkF m 121 #[.val (.int i0), .val (.int i1), .val (.int (4 : Int32)), .val (.int (0 : Int32)), .val (.ref a_HALF_PLATE), .val (.int (2 : Int32)), .unset] [])) (fun _ k => XS.ifYes X50.here hx rfl (pc0 := 108) (pc' := 121) rfl (hb hby at_108) rfl ((if0 _ _).trans (feq (by decide)).2) (by decide) (by decide) k) ?_
      refine Goes.step (B := T50.setTop (mkF m 123 #[.val (.int i0), .val (.int i1), .val (.int (4 : Int32)), .val (.int (0 : Int32)), .val (.ref a_HALF_PLATE), .val (.int (2 : Int32)), .unset] [(.int (2 : Int32))])) (fun _ k => XS.iload X50.here hx rfl (hb hby at_121) rfl k) ?_
      refine Goes.step (B := T50.setTop (mkF m 125 #[.val (.int i0), .val (.int i1), .val (.int (4 : Int32)), .val (.int (0 : Int32)), .val (.ref a_HALF_PLATE), .val (.int (2 : Int32)), .val (.int (2 : Int32))] [])) (fun _ k => XS.istore X50.here hx rfl (hb hby at_123) rfl (l' := #[.val (.int i0), .val (.int i1), .val (.int (4 : Int32)), .val (.int (0 : Int32)), .val (.ref a_HALF_PLATE), .val (.int (2 : Int32)), .val (.int (2 : Int32))]) rfl k) ?_
      refine Goes.step (B := T50.setTop (mkF m 127 #[.val (.int i0), .val (.int i1), .val (.int (4 : Int32)), .val (.int (0 : Int32)), .val (.ref a_HALF_PLATE), .val (.int (2 : Int32)), .val (.int (2 : Int32))] [(.ref a_HALF_PLATE)])) (fun _ k => XS.aload X50.here hx rfl (hb hby at_125) rfl rfl k) ?_
      refine Goes.step (B := T50.setTop (mkF m 128 #[.val (.int i0), .val (.int i1), .val (.int (4 : Int32)), .val (.int (0 : Int32)), .val (.ref a_HALF_PLATE), .val (.int (2 : Int32)), .val (.int (2 : Int32))] [(.int (0 : Int32)), (.ref a_HALF_PLATE)])) (fun _ k => XS.iloadN X50.here hx rfl (hb hby at_127) rfl k) ?_
      have f52 := F_HALF_PLATE_readyOnly.ext O0.2
      have f53 := F_HALF_PLATE_deflection.ext O0.2
      have f54 := E_HALF_PLATE.ext O0.2
      obtain ⟨cq51, kq51, qa51, qb51, qc51⟩ := isOf hZ e50 f54
      obtain ⟨_, _, ⟨T51, L51, k51, n51⟩, -, X51, ⟨Lc51, hQ51, l51, y51, z51⟩, st51⟩ := X50.virtualBack hx (y := (⟨"com/example/roundkeeper/roundkeeper/rulesets/sealedorders/Armor", "deflection", "(Z)I"⟩ : MethodName)) (z := (⟨"com/example/roundkeeper/roundkeeper/rulesets/sealedorders/Armor", "deflection", "(Z)I"⟩ : MethodName)) hown (mvT hZ (hw _ (List.mem_of_getElem? (i := 4) rfl))) (mvT hZ (hw _ (List.mem_of_getElem? (i := 5) rfl))) (notFace_of_selects (args := #[]) (mvT hZ (hw _ (List.mem_of_getElem? (i := 7) rfl)))) (mvT hZ (hw _ (List.mem_of_getElem? (i := 7) rfl))) (mvT hZ (hw _ (List.mem_of_getElem? (i := 6) rfl))) (by decide) (backOf (W := 0) (rm1 l Z a0 hw [] a_HALF_PLATE (0 : Int32) (0 : Int32) (2 : Int32) h0 n0 O0 (by decide) (by decide) f52 f53) hZ (hw _ (List.mem_of_getElem? (i := 8) rfl)) (hw _ (List.mem_of_getElem? (i := 2) rfl)) (by decide) (by decide)) qa51 qc51 (g := (mkF m 128 #[.val (.int i0), .val (.int i1), .val (.int (4 : Int32)), .val (.int (0 : Int32)), .val (.ref a_HALF_PLATE), .val (.int (2 : Int32)), .val (.int (2 : Int32))] [(.int (0 : Int32)), (.ref a_HALF_PLATE)])) rfl (by rw [hml]; rfl) (Steps.refl _) (argsL := [(.int (0 : Int32))]) (rest := []) (lenOf pd_0 rfl) rfl (by show 2 * 0 + _ ≤ _; exact Nat.le_of_eq rfl) (hb hby at_128) (fun _ _ => ⟨rfl, e50, (by decide : 0 + 0 ≤ _), (by decide : 0 + 0 ≤ _)⟩)
      dsimp only [Pt.U, Pt.locs, Pt.cells, Pt.slots] at X51 l51 y51 z51 st51 hQ51
      subst l51 y51 z51
      obtain ⟨rfl, Nq51, eh51⟩ := hQ51
      have N51 := Fr.app N0 Nq51
      refine Goes.via (B := T51.setTop (mkF m 131 #[.val (.int i0), .val (.int i1), .val (.int (4 : Int32)), .val (.int (0 : Int32)), .val (.ref a_HALF_PLATE), .val (.int (2 : Int32)), .val (.int (2 : Int32))] [(.int (own_def (0 : Int32) (0 : Int32) (2 : Int32)))])) st51 ?_
      rw [(by decide : (own_def (0 : Int32) (0 : Int32) (2 : Int32)) = (2 : Int32))]
      refine Goes.step (B := T51.setTop (mkF m 133 #[.val (.int i0), .val (.int i1), .val (.int (4 : Int32)), .val (.int (0 : Int32)), .val (.ref a_HALF_PLATE), .val (.int (2 : Int32)), .val (.int (2 : Int32))] [(.int (2 : Int32)), (.int (2 : Int32))])) (fun _ k => XS.iload X51.here hx rfl (hb hby at_131) rfl k) ?_
      refine Goes.step (B := T51.setTop (mkF m 136 #[.val (.int i0), .val (.int i1), .val (.int (4 : Int32)), .val (.int (0 : Int32)), .val (.ref a_HALF_PLATE), .val (.int (2 : Int32)), .val (.int (2 : Int32))] [])) (fun _ k => XS.icmpNo X51.here hx rfl (hb hby at_133) rfl (teq (by decide)).2 k) ?_
      refine Goes.step (B := T51.setTop (mkF m 137 #[.val (.int i0), .val (.int i1), .val (.int (4 : Int32)), .val (.int (0 : Int32)), .val (.ref a_HALF_PLATE), .val (.int (2 : Int32)), .val (.int (2 : Int32))] [(.int (1 : Int32))])) (fun _ k => XS.iconst X51.here hx rfl (hb hby at_136) k) ?_
      refine Goes.step (B := T51.setTop (mkF m 141 #[.val (.int i0), .val (.int i1), .val (.int (4 : Int32)), .val (.int (0 : Int32)), .val (.ref a_HALF_PLATE), .val (.int (2 : Int32)), .val (.int (2 : Int32))] [(.int (1 : Int32))])) (fun _ k => XS.goto X51.here hx rfl (pc0 := 137) (pc' := 141) rfl (hb hby at_137) (by decide) (by decide) k) ?_
      exact Goes.retN X51 hx eh51 (t := .boolean) Bd.returns (by simp) hlk (hb hby at_141) (by decide) (by decide) (⟨rfl, N51⟩)
    · refine Goes.step (B := s₁.setTop (mkF m 14 #[.val (.int i0), .val (.int i1), .val (.int (4 : Int32)), .unset, .unset, .unset, .unset] [])) (fun _ k => XS.ifNo X0.here hx rfl (hb hby at_11) rfl ((if0 _ _).trans (feq (by decide)).1) k) ?_
      refine Goes.step (B := s₁.setTop (mkF m 15 #[.val (.int i0), .val (.int i1), .val (.int (4 : Int32)), .unset, .unset, .unset, .unset] [(.int (1 : Int32))])) (fun _ k => XS.iconst X0.here hx rfl (hb hby at_14) k) ?_
      refine Goes.step (B := s₁.setTop (mkF m 19 #[.val (.int i0), .val (.int i1), .val (.int (4 : Int32)), .unset, .unset, .unset, .unset] [(.int (1 : Int32))])) (fun _ k => XS.goto X0.here hx rfl (pc0 := 15) (pc' := 19) rfl (hb hby at_15) (by decide) (by decide) k) ?_
      refine Goes.step (B := s₁.setTop (mkF m 20 #[.val (.int i0), .val (.int i1), .val (.int (4 : Int32)), .val (.int (1 : Int32)), .unset, .unset, .unset] [])) (fun _ k => XS.istoreN X0.here hx rfl (hb hby at_19) rfl (l' := #[.val (.int i0), .val (.int i1), .val (.int (4 : Int32)), .val (.int (1 : Int32)), .unset, .unset, .unset]) rfl k) ?_
      refine Goes.step (B := s₁.setTop (mkF m 21 #[.val (.int i0), .val (.int i1), .val (.int (4 : Int32)), .val (.int (1 : Int32)), .unset, .unset, .unset] [(.int (4 : Int32))])) (fun _ k => XS.iloadN X0.here hx rfl (hb hby at_20) rfl k) ?_
      refine Goes.step (B := s₁.setTop (mkF m 35 #[.val (.int i0), .val (.int i1), .val (.int (4 : Int32)), .val (.int (1 : Int32)), .unset, .unset, .unset] [])) (fun _ k => XS.ifYes X0.here hx rfl (pc0 := 21) (pc' := 35) rfl (hb hby at_21) rfl ((if0 _ _).trans (feq (by decide)).2) (by decide) (by decide) k) ?_
      refine Goes.step (B := s₁.setTop (mkF m 36 #[.val (.int i0), .val (.int i1), .val (.int (4 : Int32)), .val (.int (1 : Int32)), .unset, .unset, .unset] [(.int (4 : Int32))])) (fun _ k => XS.iloadN X0.here hx rfl (hb hby at_35) rfl k) ?_
      refine Goes.step (B := s₁.setTop (mkF m 37 #[.val (.int i0), .val (.int i1), .val (.int (4 : Int32)), .val (.int (1 : Int32)), .unset, .unset, .unset] [(.int (1 : Int32)), (.int (4 : Int32))])) (fun _ k => XS.iconst X0.here hx rfl (hb hby at_36) k) ?_
      refine Goes.step (B := s₁.setTop (mkF m 51 #[.val (.int i0), .val (.int i1), .val (.int (4 : Int32)), .val (.int (1 : Int32)), .unset, .unset, .unset] [])) (fun _ k => XS.icmpYes X0.here hx rfl (pc0 := 37) (pc' := 51) rfl (hb hby at_37) rfl (feq (by decide)).2 (by decide) (by decide) k) ?_
      refine Goes.step (B := s₁.setTop (mkF m 52 #[.val (.int i0), .val (.int i1), .val (.int (4 : Int32)), .val (.int (1 : Int32)), .unset, .unset, .unset] [(.int (4 : Int32))])) (fun _ k => XS.iloadN X0.here hx rfl (hb hby at_51) rfl k) ?_
      refine Goes.step (B := s₁.setTop (mkF m 53 #[.val (.int i0), .val (.int i1), .val (.int (4 : Int32)), .val (.int (1 : Int32)), .unset, .unset, .unset] [(.int (2 : Int32)), (.int (4 : Int32))])) (fun _ k => XS.iconst X0.here hx rfl (hb hby at_52) k) ?_
      refine Goes.step (B := s₁.setTop (mkF m 67 #[.val (.int i0), .val (.int i1), .val (.int (4 : Int32)), .val (.int (1 : Int32)), .unset, .unset, .unset] [])) (fun _ k => XS.icmpYes X0.here hx rfl (pc0 := 53) (pc' := 67) rfl (hb hby at_53) rfl (feq (by decide)).2 (by decide) (by decide) k) ?_
      refine Goes.step (B := s₁.setTop (mkF m 68 #[.val (.int i0), .val (.int i1), .val (.int (4 : Int32)), .val (.int (1 : Int32)), .unset, .unset, .unset] [(.int (4 : Int32))])) (fun _ k => XS.iloadN X0.here hx rfl (hb hby at_67) rfl k) ?_
      refine Goes.step (B := s₁.setTop (mkF m 69 #[.val (.int i0), .val (.int i1), .val (.int (4 : Int32)), .val (.int (1 : Int32)), .unset, .unset, .unset] [(.int (3 : Int32)), (.int (4 : Int32))])) (fun _ k => XS.iconst X0.here hx rfl (hb hby at_68) k) ?_
      refine Goes.step (B := s₁.setTop (mkF m 83 #[.val (.int i0), .val (.int i1), .val (.int (4 : Int32)), .val (.int (1 : Int32)), .unset, .unset, .unset] [])) (fun _ k => XS.icmpYes X0.here hx rfl (pc0 := 69) (pc' := 83) rfl (hb hby at_69) rfl (feq (by decide)).2 (by decide) (by decide) k) ?_
      refine Goes.step (B := s₁.setTop (mkF m 84 #[.val (.int i0), .val (.int i1), .val (.int (4 : Int32)), .val (.int (1 : Int32)), .unset, .unset, .unset] [(.int (4 : Int32))])) (fun _ k => XS.iloadN X0.here hx rfl (hb hby at_83) rfl k) ?_
      refine Goes.step (B := s₁.setTop (mkF m 85 #[.val (.int i0), .val (.int i1), .val (.int (4 : Int32)), .val (.int (1 : Int32)), .unset, .unset, .unset] [(.int (4 : Int32)), (.int (4 : Int32))])) (fun _ k => XS.iconst X0.here hx rfl (hb hby at_84) k) ?_
      refine Goes.step (B := s₁.setTop (mkF m 88 #[.val (.int i0), .val (.int i1), .val (.int (4 : Int32)), .val (.int (1 : Int32)), .unset, .unset, .unset] [])) (fun _ k => XS.icmpNo X0.here hx rfl (hb hby at_85) rfl (teq (by decide)).2 k) ?_
      have f55 := S_HALF_PLATE.ext O0.2
      obtain ⟨T56, X56, e56, st56⟩ := getS2 X0 hx hZ hown (host := "") (Or.inl (hw _ (List.mem_of_getElem? (i := 15) rfl))) Via.refl e0 f55 (g := (mkF m 88 #[.val (.int i0), .val (.int i1), .val (.int (4 : Int32)), .val (.int (1 : Int32)), .unset, .unset, .unset] [])) rfl (hb hby at_88)
      refine Goes.step (B := T56.setTop (mkF m 91 #[.val (.int i0), .val (.int i1), .val (.int (4 : Int32)), .val (.int (1 : Int32)), .unset, .unset, .unset] [(.ref a_HALF_PLATE)])) st56 ?_
      refine Goes.step (B := T56.setTop (mkF m 93 #[.val (.int i0), .val (.int i1), .val (.int (4 : Int32)), .val (.int (1 : Int32)), .val (.ref a_HALF_PLATE), .unset, .unset] [])) (fun _ k => XS.astore X56.here hx rfl (hb hby at_91) rfl rfl (l' := #[.val (.int i0), .val (.int i1), .val (.int (4 : Int32)), .val (.int (1 : Int32)), .val (.ref a_HALF_PLATE), .unset, .unset]) rfl k) ?_
      refine Goes.step (B := T56.setTop (mkF m 94 #[.val (.int i0), .val (.int i1), .val (.int (4 : Int32)), .val (.int (1 : Int32)), .val (.ref a_HALF_PLATE), .unset, .unset] [(.int (2 : Int32))])) (fun _ k => XS.iconst X56.here hx rfl (hb hby at_93) k) ?_
      refine Goes.step (B := T56.setTop (mkF m 96 #[.val (.int i0), .val (.int i1), .val (.int (4 : Int32)), .val (.int (1 : Int32)), .val (.ref a_HALF_PLATE), .val (.int (2 : Int32)), .unset] [])) (fun _ k => XS.istore X56.here hx rfl (hb hby at_94) rfl (l' := #[.val (.int i0), .val (.int i1), .val (.int (4 : Int32)), .val (.int (1 : Int32)), .val (.ref a_HALF_PLATE), .val (.int (2 : Int32)), .unset]) rfl k) ?_
      refine Goes.step (B := T56.setTop (mkF m 107 #[.val (.int i0), .val (.int i1), .val (.int (4 : Int32)), .val (.int (1 : Int32)), .val (.ref a_HALF_PLATE), .val (.int (2 : Int32)), .unset] [])) (fun _ k => XS.goto X56.here hx rfl (pc0 := 96) (pc' := 107) rfl (hb hby at_96) (by decide) (by decide) k) ?_
      refine Goes.step (B := T56.setTop (mkF m 108 #[.val (.int i0), .val (.int i1), .val (.int (4 : Int32)), .val (.int (1 : Int32)), .val (.ref a_HALF_PLATE), .val (.int (2 : Int32)), .unset] [(.int (4 : Int32))])) (fun _ k => XS.iloadN X56.here hx rfl (hb hby at_107) rfl k) ?_
      refine Goes.step (B := T56.setTop (mkF m 121 #[.val (.int i0), .val (.int i1), .val (.int (4 : Int32)), .val (.int (1 : Int32)), .val (.ref a_HALF_PLATE), .val (.int (2 : Int32)), .unset] [])) (fun _ k => XS.ifYes X56.here hx rfl (pc0 := 108) (pc' := 121) rfl (hb hby at_108) rfl ((if0 _ _).trans (feq (by decide)).2) (by decide) (by decide) k) ?_
      refine Goes.step (B := T56.setTop (mkF m 123 #[.val (.int i0), .val (.int i1), .val (.int (4 : Int32)), .val (.int (1 : Int32)), .val (.ref a_HALF_PLATE), .val (.int (2 : Int32)), .unset] [(.int (2 : Int32))])) (fun _ k => XS.iload X56.here hx rfl (hb hby at_121) rfl k) ?_
      refine Goes.step (B := T56.setTop (mkF m 125 #[.val (.int i0), .val (.int i1), .val (.int (4 : Int32)), .val (.int (1 : Int32)), .val (.ref a_HALF_PLATE), .val (.int (2 : Int32)), .val (.int (2 : Int32))] [])) (fun _ k => XS.istore X56.here hx rfl (hb hby at_123) rfl (l' := #[.val (.int i0), .val (.int i1), .val (.int (4 : Int32)), .val (.int (1 : Int32)), .val (.ref a_HALF_PLATE), .val (.int (2 : Int32)), .val (.int (2 : Int32))]) rfl k) ?_
      refine Goes.step (B := T56.setTop (mkF m 127 #[.val (.int i0), .val (.int i1), .val (.int (4 : Int32)), .val (.int (1 : Int32)), .val (.ref a_HALF_PLATE), .val (.int (2 : Int32)), .val (.int (2 : Int32))] [(.ref a_HALF_PLATE)])) (fun _ k => XS.aload X56.here hx rfl (hb hby at_125) rfl rfl k) ?_
      refine Goes.step (B := T56.setTop (mkF m 128 #[.val (.int i0), .val (.int i1), .val (.int (4 : Int32)), .val (.int (1 : Int32)), .val (.ref a_HALF_PLATE), .val (.int (2 : Int32)), .val (.int (2 : Int32))] [(.int (1 : Int32)), (.ref a_HALF_PLATE)])) (fun _ k => XS.iloadN X56.here hx rfl (hb hby at_127) rfl k) ?_
      have f58 := F_HALF_PLATE_readyOnly.ext O0.2
      have f59 := F_HALF_PLATE_deflection.ext O0.2
      have f60 := E_HALF_PLATE.ext O0.2
      obtain ⟨cq57, kq57, qa57, qb57, qc57⟩ := isOf hZ e56 f60
      obtain ⟨_, _, ⟨T57, L57, k57, n57⟩, -, X57, ⟨Lc57, hQ57, l57, y57, z57⟩, st57⟩ := X56.virtualBack hx (y := (⟨"com/example/roundkeeper/roundkeeper/rulesets/sealedorders/Armor", "deflection", "(Z)I"⟩ : MethodName)) (z := (⟨"com/example/roundkeeper/roundkeeper/rulesets/sealedorders/Armor", "deflection", "(Z)I"⟩ : MethodName)) hown (mvT hZ (hw _ (List.mem_of_getElem? (i := 4) rfl))) (mvT hZ (hw _ (List.mem_of_getElem? (i := 5) rfl))) (notFace_of_selects (args := #[]) (mvT hZ (hw _ (List.mem_of_getElem? (i := 7) rfl)))) (mvT hZ (hw _ (List.mem_of_getElem? (i := 7) rfl))) (mvT hZ (hw _ (List.mem_of_getElem? (i := 6) rfl))) (by decide) (backOf (W := 0) (rm1 l Z a0 hw [] a_HALF_PLATE (1 : Int32) (0 : Int32) (2 : Int32) h0 n0 O0 (by decide) (by decide) f58 f59) hZ (hw _ (List.mem_of_getElem? (i := 8) rfl)) (hw _ (List.mem_of_getElem? (i := 2) rfl)) (by decide) (by decide)) qa57 qc57 (g := (mkF m 128 #[.val (.int i0), .val (.int i1), .val (.int (4 : Int32)), .val (.int (1 : Int32)), .val (.ref a_HALF_PLATE), .val (.int (2 : Int32)), .val (.int (2 : Int32))] [(.int (1 : Int32)), (.ref a_HALF_PLATE)])) rfl (by rw [hml]; rfl) (Steps.refl _) (argsL := [(.int (1 : Int32))]) (rest := []) (lenOf pd_0 rfl) rfl (by show 2 * 0 + _ ≤ _; exact Nat.le_of_eq rfl) (hb hby at_128) (fun _ _ => ⟨rfl, e56, (by decide : 0 + 0 ≤ _), (by decide : 0 + 0 ≤ _)⟩)
      dsimp only [Pt.U, Pt.locs, Pt.cells, Pt.slots] at X57 l57 y57 z57 st57 hQ57
      subst l57 y57 z57
      obtain ⟨rfl, Nq57, eh57⟩ := hQ57
      have N57 := Fr.app N0 Nq57
      refine Goes.via (B := T57.setTop (mkF m 131 #[.val (.int i0), .val (.int i1), .val (.int (4 : Int32)), .val (.int (1 : Int32)), .val (.ref a_HALF_PLATE), .val (.int (2 : Int32)), .val (.int (2 : Int32))] [(.int (own_def (1 : Int32) (0 : Int32) (2 : Int32)))])) st57 ?_
      rw [(by decide : (own_def (1 : Int32) (0 : Int32) (2 : Int32)) = (2 : Int32))]
      refine Goes.step (B := T57.setTop (mkF m 133 #[.val (.int i0), .val (.int i1), .val (.int (4 : Int32)), .val (.int (1 : Int32)), .val (.ref a_HALF_PLATE), .val (.int (2 : Int32)), .val (.int (2 : Int32))] [(.int (2 : Int32)), (.int (2 : Int32))])) (fun _ k => XS.iload X57.here hx rfl (hb hby at_131) rfl k) ?_
      refine Goes.step (B := T57.setTop (mkF m 136 #[.val (.int i0), .val (.int i1), .val (.int (4 : Int32)), .val (.int (1 : Int32)), .val (.ref a_HALF_PLATE), .val (.int (2 : Int32)), .val (.int (2 : Int32))] [])) (fun _ k => XS.icmpNo X57.here hx rfl (hb hby at_133) rfl (teq (by decide)).2 k) ?_
      refine Goes.step (B := T57.setTop (mkF m 137 #[.val (.int i0), .val (.int i1), .val (.int (4 : Int32)), .val (.int (1 : Int32)), .val (.ref a_HALF_PLATE), .val (.int (2 : Int32)), .val (.int (2 : Int32))] [(.int (1 : Int32))])) (fun _ k => XS.iconst X57.here hx rfl (hb hby at_136) k) ?_
      refine Goes.step (B := T57.setTop (mkF m 141 #[.val (.int i0), .val (.int i1), .val (.int (4 : Int32)), .val (.int (1 : Int32)), .val (.ref a_HALF_PLATE), .val (.int (2 : Int32)), .val (.int (2 : Int32))] [(.int (1 : Int32))])) (fun _ k => XS.goto X57.here hx rfl (pc0 := 137) (pc' := 141) rfl (hb hby at_137) (by decide) (by decide) k) ?_
      exact Goes.retN X57 hx eh57 (t := .boolean) Bd.returns (by simp) hlk (hb hby at_141) (by decide) (by decide) (⟨rfl, N57⟩)
  · refine Goes.step (B := s₁.setTop (mkF m 8 #[.val (.int i0), .val (.int i1), .val (.int (5 : Int32)), .unset, .unset, .unset, .unset] [])) (fun _ k => XS.istoreN X0.here hx rfl (hb hby at_7) rfl (l' := #[.val (.int i0), .val (.int i1), .val (.int (5 : Int32)), .unset, .unset, .unset, .unset]) rfl k) ?_
    refine Goes.step (B := s₁.setTop (mkF m 9 #[.val (.int i0), .val (.int i1), .val (.int (5 : Int32)), .unset, .unset, .unset, .unset] [(.int i1)])) (fun _ k => XS.iloadN X0.here hx rfl (hb hby at_8) rfl k) ?_
    refine Goes.step (B := s₁.setTop (mkF m 10 #[.val (.int i0), .val (.int i1), .val (.int (5 : Int32)), .unset, .unset, .unset, .unset] [(.int (1 : Int32)), (.int i1)])) (fun _ k => XS.iconst X0.here hx rfl (hb hby at_9) k) ?_
    refine Goes.step (B := s₁.setTop (mkF m 11 #[.val (.int i0), .val (.int i1), .val (.int (5 : Int32)), .unset, .unset, .unset, .unset] [(.int (i1 &&& (1 : Int32)))])) (fun _ k => XS.iand X0.here hx rfl (hb hby at_10) rfl k) ?_
    obtain ⟨bv, hbv⟩ : ∃ z, z = (i1 &&& (1 : Int32)) := ⟨_, rfl⟩
    rw [← hbv]
    rcases own_bit hbv with rfl | rfl
    · refine Goes.step (B := s₁.setTop (mkF m 18 #[.val (.int i0), .val (.int i1), .val (.int (5 : Int32)), .unset, .unset, .unset, .unset] [])) (fun _ k => XS.ifYes X0.here hx rfl (pc0 := 11) (pc' := 18) rfl (hb hby at_11) rfl ((if0 _ _).trans (teq (by decide)).1) (by decide) (by decide) k) ?_
      refine Goes.step (B := s₁.setTop (mkF m 19 #[.val (.int i0), .val (.int i1), .val (.int (5 : Int32)), .unset, .unset, .unset, .unset] [(.int (0 : Int32))])) (fun _ k => XS.iconst X0.here hx rfl (hb hby at_18) k) ?_
      refine Goes.step (B := s₁.setTop (mkF m 20 #[.val (.int i0), .val (.int i1), .val (.int (5 : Int32)), .val (.int (0 : Int32)), .unset, .unset, .unset] [])) (fun _ k => XS.istoreN X0.here hx rfl (hb hby at_19) rfl (l' := #[.val (.int i0), .val (.int i1), .val (.int (5 : Int32)), .val (.int (0 : Int32)), .unset, .unset, .unset]) rfl k) ?_
      refine Goes.step (B := s₁.setTop (mkF m 21 #[.val (.int i0), .val (.int i1), .val (.int (5 : Int32)), .val (.int (0 : Int32)), .unset, .unset, .unset] [(.int (5 : Int32))])) (fun _ k => XS.iloadN X0.here hx rfl (hb hby at_20) rfl k) ?_
      refine Goes.step (B := s₁.setTop (mkF m 35 #[.val (.int i0), .val (.int i1), .val (.int (5 : Int32)), .val (.int (0 : Int32)), .unset, .unset, .unset] [])) (fun _ k => XS.ifYes X0.here hx rfl (pc0 := 21) (pc' := 35) rfl (hb hby at_21) rfl ((if0 _ _).trans (feq (by decide)).2) (by decide) (by decide) k) ?_
      refine Goes.step (B := s₁.setTop (mkF m 36 #[.val (.int i0), .val (.int i1), .val (.int (5 : Int32)), .val (.int (0 : Int32)), .unset, .unset, .unset] [(.int (5 : Int32))])) (fun _ k => XS.iloadN X0.here hx rfl (hb hby at_35) rfl k) ?_
      refine Goes.step (B := s₁.setTop (mkF m 37 #[.val (.int i0), .val (.int i1), .val (.int (5 : Int32)), .val (.int (0 : Int32)), .unset, .unset, .unset] [(.int (1 : Int32)), (.int (5 : Int32))])) (fun _ k => XS.iconst X0.here hx rfl (hb hby at_36) k) ?_
      refine Goes.step (B := s₁.setTop (mkF m 51 #[.val (.int i0), .val (.int i1), .val (.int (5 : Int32)), .val (.int (0 : Int32)), .unset, .unset, .unset] [])) (fun _ k => XS.icmpYes X0.here hx rfl (pc0 := 37) (pc' := 51) rfl (hb hby at_37) rfl (feq (by decide)).2 (by decide) (by decide) k) ?_
      refine Goes.step (B := s₁.setTop (mkF m 52 #[.val (.int i0), .val (.int i1), .val (.int (5 : Int32)), .val (.int (0 : Int32)), .unset, .unset, .unset] [(.int (5 : Int32))])) (fun _ k => XS.iloadN X0.here hx rfl (hb hby at_51) rfl k) ?_
      refine Goes.step (B := s₁.setTop (mkF m 53 #[.val (.int i0), .val (.int i1), .val (.int (5 : Int32)), .val (.int (0 : Int32)), .unset, .unset, .unset] [(.int (2 : Int32)), (.int (5 : Int32))])) (fun _ k => XS.iconst X0.here hx rfl (hb hby at_52) k) ?_
      refine Goes.step (B := s₁.setTop (mkF m 67 #[.val (.int i0), .val (.int i1), .val (.int (5 : Int32)), .val (.int (0 : Int32)), .unset, .unset, .unset] [])) (fun _ k => XS.icmpYes X0.here hx rfl (pc0 := 53) (pc' := 67) rfl (hb hby at_53) rfl (feq (by decide)).2 (by decide) (by decide) k) ?_
      refine Goes.step (B := s₁.setTop (mkF m 68 #[.val (.int i0), .val (.int i1), .val (.int (5 : Int32)), .val (.int (0 : Int32)), .unset, .unset, .unset] [(.int (5 : Int32))])) (fun _ k => XS.iloadN X0.here hx rfl (hb hby at_67) rfl k) ?_
      refine Goes.step (B := s₁.setTop (mkF m 69 #[.val (.int i0), .val (.int i1), .val (.int (5 : Int32)), .val (.int (0 : Int32)), .unset, .unset, .unset] [(.int (3 : Int32)), (.int (5 : Int32))])) (fun _ k => XS.iconst X0.here hx rfl (hb hby at_68) k) ?_
      refine Goes.step (B := s₁.setTop (mkF m 83 #[.val (.int i0), .val (.int i1), .val (.int (5 : Int32)), .val (.int (0 : Int32)), .unset, .unset, .unset] [])) (fun _ k => XS.icmpYes X0.here hx rfl (pc0 := 69) (pc' := 83) rfl (hb hby at_69) rfl (feq (by decide)).2 (by decide) (by decide) k) ?_
      refine Goes.step (B := s₁.setTop (mkF m 84 #[.val (.int i0), .val (.int i1), .val (.int (5 : Int32)), .val (.int (0 : Int32)), .unset, .unset, .unset] [(.int (5 : Int32))])) (fun _ k => XS.iloadN X0.here hx rfl (hb hby at_83) rfl k) ?_
      refine Goes.step (B := s₁.setTop (mkF m 85 #[.val (.int i0), .val (.int i1), .val (.int (5 : Int32)), .val (.int (0 : Int32)), .unset, .unset, .unset] [(.int (4 : Int32)), (.int (5 : Int32))])) (fun _ k => XS.iconst X0.here hx rfl (hb hby at_84) k) ?_
      refine Goes.step (B := s₁.setTop (mkF m 99 #[.val (.int i0), .val (.int i1), .val (.int (5 : Int32)), .val (.int (0 : Int32)), .unset, .unset, .unset] [])) (fun _ k => XS.icmpYes X0.here hx rfl (pc0 := 85) (pc' := 99) rfl (hb hby at_85) rfl (feq (by decide)).2 (by decide) (by decide) k) ?_
      have f61 := S_FULL_PLATE.ext O0.2
      obtain ⟨T62, X62, e62, st62⟩ := getS2 X0 hx hZ hown (host := "") (Or.inl (hw _ (List.mem_of_getElem? (i := 19) rfl))) Via.refl e0 f61 (g := (mkF m 99 #[.val (.int i0), .val (.int i1), .val (.int (5 : Int32)), .val (.int (0 : Int32)), .unset, .unset, .unset] [])) rfl (hb hby at_99)
      refine Goes.step (B := T62.setTop (mkF m 102 #[.val (.int i0), .val (.int i1), .val (.int (5 : Int32)), .val (.int (0 : Int32)), .unset, .unset, .unset] [(.ref a_FULL_PLATE)])) st62 ?_
      refine Goes.step (B := T62.setTop (mkF m 104 #[.val (.int i0), .val (.int i1), .val (.int (5 : Int32)), .val (.int (0 : Int32)), .val (.ref a_FULL_PLATE), .unset, .unset] [])) (fun _ k => XS.astore X62.here hx rfl (hb hby at_102) rfl rfl (l' := #[.val (.int i0), .val (.int i1), .val (.int (5 : Int32)), .val (.int (0 : Int32)), .val (.ref a_FULL_PLATE), .unset, .unset]) rfl k) ?_
      refine Goes.step (B := T62.setTop (mkF m 105 #[.val (.int i0), .val (.int i1), .val (.int (5 : Int32)), .val (.int (0 : Int32)), .val (.ref a_FULL_PLATE), .unset, .unset] [(.int (3 : Int32))])) (fun _ k => XS.iconst X62.here hx rfl (hb hby at_104) k) ?_
      refine Goes.step (B := T62.setTop (mkF m 107 #[.val (.int i0), .val (.int i1), .val (.int (5 : Int32)), .val (.int (0 : Int32)), .val (.ref a_FULL_PLATE), .val (.int (3 : Int32)), .unset] [])) (fun _ k => XS.istore X62.here hx rfl (hb hby at_105) rfl (l' := #[.val (.int i0), .val (.int i1), .val (.int (5 : Int32)), .val (.int (0 : Int32)), .val (.ref a_FULL_PLATE), .val (.int (3 : Int32)), .unset]) rfl k) ?_
      refine Goes.step (B := T62.setTop (mkF m 108 #[.val (.int i0), .val (.int i1), .val (.int (5 : Int32)), .val (.int (0 : Int32)), .val (.ref a_FULL_PLATE), .val (.int (3 : Int32)), .unset] [(.int (5 : Int32))])) (fun _ k => XS.iloadN X62.here hx rfl (hb hby at_107) rfl k) ?_
      refine Goes.step (B := T62.setTop (mkF m 121 #[.val (.int i0), .val (.int i1), .val (.int (5 : Int32)), .val (.int (0 : Int32)), .val (.ref a_FULL_PLATE), .val (.int (3 : Int32)), .unset] [])) (fun _ k => XS.ifYes X62.here hx rfl (pc0 := 108) (pc' := 121) rfl (hb hby at_108) rfl ((if0 _ _).trans (feq (by decide)).2) (by decide) (by decide) k) ?_
      refine Goes.step (B := T62.setTop (mkF m 123 #[.val (.int i0), .val (.int i1), .val (.int (5 : Int32)), .val (.int (0 : Int32)), .val (.ref a_FULL_PLATE), .val (.int (3 : Int32)), .unset] [(.int (3 : Int32))])) (fun _ k => XS.iload X62.here hx rfl (hb hby at_121) rfl k) ?_
      refine Goes.step (B := T62.setTop (mkF m 125 #[.val (.int i0), .val (.int i1), .val (.int (5 : Int32)), .val (.int (0 : Int32)), .val (.ref a_FULL_PLATE), .val (.int (3 : Int32)), .val (.int (3 : Int32))] [])) (fun _ k => XS.istore X62.here hx rfl (hb hby at_123) rfl (l' := #[.val (.int i0), .val (.int i1), .val (.int (5 : Int32)), .val (.int (0 : Int32)), .val (.ref a_FULL_PLATE), .val (.int (3 : Int32)), .val (.int (3 : Int32))]) rfl k) ?_
      refine Goes.step (B := T62.setTop (mkF m 127 #[.val (.int i0), .val (.int i1), .val (.int (5 : Int32)), .val (.int (0 : Int32)), .val (.ref a_FULL_PLATE), .val (.int (3 : Int32)), .val (.int (3 : Int32))] [(.ref a_FULL_PLATE)])) (fun _ k => XS.aload X62.here hx rfl (hb hby at_125) rfl rfl k) ?_
      refine Goes.step (B := T62.setTop (mkF m 128 #[.val (.int i0), .val (.int i1), .val (.int (5 : Int32)), .val (.int (0 : Int32)), .val (.ref a_FULL_PLATE), .val (.int (3 : Int32)), .val (.int (3 : Int32))] [(.int (0 : Int32)), (.ref a_FULL_PLATE)])) (fun _ k => XS.iloadN X62.here hx rfl (hb hby at_127) rfl k) ?_
      have f64 := F_FULL_PLATE_readyOnly.ext O0.2
      have f65 := F_FULL_PLATE_deflection.ext O0.2
      have f66 := E_FULL_PLATE.ext O0.2
      obtain ⟨cq63, kq63, qa63, qb63, qc63⟩ := isOf hZ e62 f66
      obtain ⟨_, _, ⟨T63, L63, k63, n63⟩, -, X63, ⟨Lc63, hQ63, l63, y63, z63⟩, st63⟩ := X62.virtualBack hx (y := (⟨"com/example/roundkeeper/roundkeeper/rulesets/sealedorders/Armor", "deflection", "(Z)I"⟩ : MethodName)) (z := (⟨"com/example/roundkeeper/roundkeeper/rulesets/sealedorders/Armor", "deflection", "(Z)I"⟩ : MethodName)) hown (mvT hZ (hw _ (List.mem_of_getElem? (i := 4) rfl))) (mvT hZ (hw _ (List.mem_of_getElem? (i := 5) rfl))) (notFace_of_selects (args := #[]) (mvT hZ (hw _ (List.mem_of_getElem? (i := 7) rfl)))) (mvT hZ (hw _ (List.mem_of_getElem? (i := 7) rfl))) (mvT hZ (hw _ (List.mem_of_getElem? (i := 6) rfl))) (by decide) (backOf (W := 0) (rm1 l Z a0 hw [] a_FULL_PLATE (0 : Int32) (0 : Int32) (3 : Int32) h0 n0 O0 (by decide) (by decide) f64 f65) hZ (hw _ (List.mem_of_getElem? (i := 8) rfl)) (hw _ (List.mem_of_getElem? (i := 2) rfl)) (by decide) (by decide)) qa63 qc63 (g := (mkF m 128 #[.val (.int i0), .val (.int i1), .val (.int (5 : Int32)), .val (.int (0 : Int32)), .val (.ref a_FULL_PLATE), .val (.int (3 : Int32)), .val (.int (3 : Int32))] [(.int (0 : Int32)), (.ref a_FULL_PLATE)])) rfl (by rw [hml]; rfl) (Steps.refl _) (argsL := [(.int (0 : Int32))]) (rest := []) (lenOf pd_0 rfl) rfl (by show 2 * 0 + _ ≤ _; exact Nat.le_of_eq rfl) (hb hby at_128) (fun _ _ => ⟨rfl, e62, (by decide : 0 + 0 ≤ _), (by decide : 0 + 0 ≤ _)⟩)
      dsimp only [Pt.U, Pt.locs, Pt.cells, Pt.slots] at X63 l63 y63 z63 st63 hQ63
      subst l63 y63 z63
      obtain ⟨rfl, Nq63, eh63⟩ := hQ63
      have N63 := Fr.app N0 Nq63
      refine Goes.via (B := T63.setTop (mkF m 131 #[.val (.int i0), .val (.int i1), .val (.int (5 : Int32)), .val (.int (0 : Int32)), .val (.ref a_FULL_PLATE), .val (.int (3 : Int32)), .val (.int (3 : Int32))] [(.int (own_def (0 : Int32) (0 : Int32) (3 : Int32)))])) st63 ?_
      rw [(by decide : (own_def (0 : Int32) (0 : Int32) (3 : Int32)) = (3 : Int32))]
      refine Goes.step (B := T63.setTop (mkF m 133 #[.val (.int i0), .val (.int i1), .val (.int (5 : Int32)), .val (.int (0 : Int32)), .val (.ref a_FULL_PLATE), .val (.int (3 : Int32)), .val (.int (3 : Int32))] [(.int (3 : Int32)), (.int (3 : Int32))])) (fun _ k => XS.iload X63.here hx rfl (hb hby at_131) rfl k) ?_
      refine Goes.step (B := T63.setTop (mkF m 136 #[.val (.int i0), .val (.int i1), .val (.int (5 : Int32)), .val (.int (0 : Int32)), .val (.ref a_FULL_PLATE), .val (.int (3 : Int32)), .val (.int (3 : Int32))] [])) (fun _ k => XS.icmpNo X63.here hx rfl (hb hby at_133) rfl (teq (by decide)).2 k) ?_
      refine Goes.step (B := T63.setTop (mkF m 137 #[.val (.int i0), .val (.int i1), .val (.int (5 : Int32)), .val (.int (0 : Int32)), .val (.ref a_FULL_PLATE), .val (.int (3 : Int32)), .val (.int (3 : Int32))] [(.int (1 : Int32))])) (fun _ k => XS.iconst X63.here hx rfl (hb hby at_136) k) ?_
      refine Goes.step (B := T63.setTop (mkF m 141 #[.val (.int i0), .val (.int i1), .val (.int (5 : Int32)), .val (.int (0 : Int32)), .val (.ref a_FULL_PLATE), .val (.int (3 : Int32)), .val (.int (3 : Int32))] [(.int (1 : Int32))])) (fun _ k => XS.goto X63.here hx rfl (pc0 := 137) (pc' := 141) rfl (hb hby at_137) (by decide) (by decide) k) ?_
      exact Goes.retN X63 hx eh63 (t := .boolean) Bd.returns (by simp) hlk (hb hby at_141) (by decide) (by decide) (⟨rfl, N63⟩)
    · refine Goes.step (B := s₁.setTop (mkF m 14 #[.val (.int i0), .val (.int i1), .val (.int (5 : Int32)), .unset, .unset, .unset, .unset] [])) (fun _ k => XS.ifNo X0.here hx rfl (hb hby at_11) rfl ((if0 _ _).trans (feq (by decide)).1) k) ?_
      refine Goes.step (B := s₁.setTop (mkF m 15 #[.val (.int i0), .val (.int i1), .val (.int (5 : Int32)), .unset, .unset, .unset, .unset] [(.int (1 : Int32))])) (fun _ k => XS.iconst X0.here hx rfl (hb hby at_14) k) ?_
      refine Goes.step (B := s₁.setTop (mkF m 19 #[.val (.int i0), .val (.int i1), .val (.int (5 : Int32)), .unset, .unset, .unset, .unset] [(.int (1 : Int32))])) (fun _ k => XS.goto X0.here hx rfl (pc0 := 15) (pc' := 19) rfl (hb hby at_15) (by decide) (by decide) k) ?_
      refine Goes.step (B := s₁.setTop (mkF m 20 #[.val (.int i0), .val (.int i1), .val (.int (5 : Int32)), .val (.int (1 : Int32)), .unset, .unset, .unset] [])) (fun _ k => XS.istoreN X0.here hx rfl (hb hby at_19) rfl (l' := #[.val (.int i0), .val (.int i1), .val (.int (5 : Int32)), .val (.int (1 : Int32)), .unset, .unset, .unset]) rfl k) ?_
      refine Goes.step (B := s₁.setTop (mkF m 21 #[.val (.int i0), .val (.int i1), .val (.int (5 : Int32)), .val (.int (1 : Int32)), .unset, .unset, .unset] [(.int (5 : Int32))])) (fun _ k => XS.iloadN X0.here hx rfl (hb hby at_20) rfl k) ?_
      refine Goes.step (B := s₁.setTop (mkF m 35 #[.val (.int i0), .val (.int i1), .val (.int (5 : Int32)), .val (.int (1 : Int32)), .unset, .unset, .unset] [])) (fun _ k => XS.ifYes X0.here hx rfl (pc0 := 21) (pc' := 35) rfl (hb hby at_21) rfl ((if0 _ _).trans (feq (by decide)).2) (by decide) (by decide) k) ?_
      refine Goes.step (B := s₁.setTop (mkF m 36 #[.val (.int i0), .val (.int i1), .val (.int (5 : Int32)), .val (.int (1 : Int32)), .unset, .unset, .unset] [(.int (5 : Int32))])) (fun _ k => XS.iloadN X0.here hx rfl (hb hby at_35) rfl k) ?_
      refine Goes.step (B := s₁.setTop (mkF m 37 #[.val (.int i0), .val (.int i1), .val (.int (5 : Int32)), .val (.int (1 : Int32)), .unset, .unset, .unset] [(.int (1 : Int32)), (.int (5 : Int32))])) (fun _ k => XS.iconst X0.here hx rfl (hb hby at_36) k) ?_
      refine Goes.step (B := s₁.setTop (mkF m 51 #[.val (.int i0), .val (.int i1), .val (.int (5 : Int32)), .val (.int (1 : Int32)), .unset, .unset, .unset] [])) (fun _ k => XS.icmpYes X0.here hx rfl (pc0 := 37) (pc' := 51) rfl (hb hby at_37) rfl (feq (by decide)).2 (by decide) (by decide) k) ?_
      refine Goes.step (B := s₁.setTop (mkF m 52 #[.val (.int i0), .val (.int i1), .val (.int (5 : Int32)), .val (.int (1 : Int32)), .unset, .unset, .unset] [(.int (5 : Int32))])) (fun _ k => XS.iloadN X0.here hx rfl (hb hby at_51) rfl k) ?_
      refine Goes.step (B := s₁.setTop (mkF m 53 #[.val (.int i0), .val (.int i1), .val (.int (5 : Int32)), .val (.int (1 : Int32)), .unset, .unset, .unset] [(.int (2 : Int32)), (.int (5 : Int32))])) (fun _ k => XS.iconst X0.here hx rfl (hb hby at_52) k) ?_
      refine Goes.step (B := s₁.setTop (mkF m 67 #[.val (.int i0), .val (.int i1), .val (.int (5 : Int32)), .val (.int (1 : Int32)), .unset, .unset, .unset] [])) (fun _ k => XS.icmpYes X0.here hx rfl (pc0 := 53) (pc' := 67) rfl (hb hby at_53) rfl (feq (by decide)).2 (by decide) (by decide) k) ?_
      refine Goes.step (B := s₁.setTop (mkF m 68 #[.val (.int i0), .val (.int i1), .val (.int (5 : Int32)), .val (.int (1 : Int32)), .unset, .unset, .unset] [(.int (5 : Int32))])) (fun _ k => XS.iloadN X0.here hx rfl (hb hby at_67) rfl k) ?_
      refine Goes.step (B := s₁.setTop (mkF m 69 #[.val (.int i0), .val (.int i1), .val (.int (5 : Int32)), .val (.int (1 : Int32)), .unset, .unset, .unset] [(.int (3 : Int32)), (.int (5 : Int32))])) (fun _ k => XS.iconst X0.here hx rfl (hb hby at_68) k) ?_
      refine Goes.step (B := s₁.setTop (mkF m 83 #[.val (.int i0), .val (.int i1), .val (.int (5 : Int32)), .val (.int (1 : Int32)), .unset, .unset, .unset] [])) (fun _ k => XS.icmpYes X0.here hx rfl (pc0 := 69) (pc' := 83) rfl (hb hby at_69) rfl (feq (by decide)).2 (by decide) (by decide) k) ?_
      refine Goes.step (B := s₁.setTop (mkF m 84 #[.val (.int i0), .val (.int i1), .val (.int (5 : Int32)), .val (.int (1 : Int32)), .unset, .unset, .unset] [(.int (5 : Int32))])) (fun _ k => XS.iloadN X0.here hx rfl (hb hby at_83) rfl k) ?_
      refine Goes.step (B := s₁.setTop (mkF m 85 #[.val (.int i0), .val (.int i1), .val (.int (5 : Int32)), .val (.int (1 : Int32)), .unset, .unset, .unset] [(.int (4 : Int32)), (.int (5 : Int32))])) (fun _ k => XS.iconst X0.here hx rfl (hb hby at_84) k) ?_
      refine Goes.step (B := s₁.setTop (mkF m 99 #[.val (.int i0), .val (.int i1), .val (.int (5 : Int32)), .val (.int (1 : Int32)), .unset, .unset, .unset] [])) (fun _ k => XS.icmpYes X0.here hx rfl (pc0 := 85) (pc' := 99) rfl (hb hby at_85) rfl (feq (by decide)).2 (by decide) (by decide) k) ?_
      have f67 := S_FULL_PLATE.ext O0.2
      obtain ⟨T68, X68, e68, st68⟩ := getS2 X0 hx hZ hown (host := "") (Or.inl (hw _ (List.mem_of_getElem? (i := 19) rfl))) Via.refl e0 f67 (g := (mkF m 99 #[.val (.int i0), .val (.int i1), .val (.int (5 : Int32)), .val (.int (1 : Int32)), .unset, .unset, .unset] [])) rfl (hb hby at_99)
      refine Goes.step (B := T68.setTop (mkF m 102 #[.val (.int i0), .val (.int i1), .val (.int (5 : Int32)), .val (.int (1 : Int32)), .unset, .unset, .unset] [(.ref a_FULL_PLATE)])) st68 ?_
      refine Goes.step (B := T68.setTop (mkF m 104 #[.val (.int i0), .val (.int i1), .val (.int (5 : Int32)), .val (.int (1 : Int32)), .val (.ref a_FULL_PLATE), .unset, .unset] [])) (fun _ k => XS.astore X68.here hx rfl (hb hby at_102) rfl rfl (l' := #[.val (.int i0), .val (.int i1), .val (.int (5 : Int32)), .val (.int (1 : Int32)), .val (.ref a_FULL_PLATE), .unset, .unset]) rfl k) ?_
      refine Goes.step (B := T68.setTop (mkF m 105 #[.val (.int i0), .val (.int i1), .val (.int (5 : Int32)), .val (.int (1 : Int32)), .val (.ref a_FULL_PLATE), .unset, .unset] [(.int (3 : Int32))])) (fun _ k => XS.iconst X68.here hx rfl (hb hby at_104) k) ?_
      refine Goes.step (B := T68.setTop (mkF m 107 #[.val (.int i0), .val (.int i1), .val (.int (5 : Int32)), .val (.int (1 : Int32)), .val (.ref a_FULL_PLATE), .val (.int (3 : Int32)), .unset] [])) (fun _ k => XS.istore X68.here hx rfl (hb hby at_105) rfl (l' := #[.val (.int i0), .val (.int i1), .val (.int (5 : Int32)), .val (.int (1 : Int32)), .val (.ref a_FULL_PLATE), .val (.int (3 : Int32)), .unset]) rfl k) ?_
      refine Goes.step (B := T68.setTop (mkF m 108 #[.val (.int i0), .val (.int i1), .val (.int (5 : Int32)), .val (.int (1 : Int32)), .val (.ref a_FULL_PLATE), .val (.int (3 : Int32)), .unset] [(.int (5 : Int32))])) (fun _ k => XS.iloadN X68.here hx rfl (hb hby at_107) rfl k) ?_
      refine Goes.step (B := T68.setTop (mkF m 121 #[.val (.int i0), .val (.int i1), .val (.int (5 : Int32)), .val (.int (1 : Int32)), .val (.ref a_FULL_PLATE), .val (.int (3 : Int32)), .unset] [])) (fun _ k => XS.ifYes X68.here hx rfl (pc0 := 108) (pc' := 121) rfl (hb hby at_108) rfl ((if0 _ _).trans (feq (by decide)).2) (by decide) (by decide) k) ?_
      refine Goes.step (B := T68.setTop (mkF m 123 #[.val (.int i0), .val (.int i1), .val (.int (5 : Int32)), .val (.int (1 : Int32)), .val (.ref a_FULL_PLATE), .val (.int (3 : Int32)), .unset] [(.int (3 : Int32))])) (fun _ k => XS.iload X68.here hx rfl (hb hby at_121) rfl k) ?_
      refine Goes.step (B := T68.setTop (mkF m 125 #[.val (.int i0), .val (.int i1), .val (.int (5 : Int32)), .val (.int (1 : Int32)), .val (.ref a_FULL_PLATE), .val (.int (3 : Int32)), .val (.int (3 : Int32))] [])) (fun _ k => XS.istore X68.here hx rfl (hb hby at_123) rfl (l' := #[.val (.int i0), .val (.int i1), .val (.int (5 : Int32)), .val (.int (1 : Int32)), .val (.ref a_FULL_PLATE), .val (.int (3 : Int32)), .val (.int (3 : Int32))]) rfl k) ?_
      refine Goes.step (B := T68.setTop (mkF m 127 #[.val (.int i0), .val (.int i1), .val (.int (5 : Int32)), .val (.int (1 : Int32)), .val (.ref a_FULL_PLATE), .val (.int (3 : Int32)), .val (.int (3 : Int32))] [(.ref a_FULL_PLATE)])) (fun _ k => XS.aload X68.here hx rfl (hb hby at_125) rfl rfl k) ?_
      refine Goes.step (B := T68.setTop (mkF m 128 #[.val (.int i0), .val (.int i1), .val (.int (5 : Int32)), .val (.int (1 : Int32)), .val (.ref a_FULL_PLATE), .val (.int (3 : Int32)), .val (.int (3 : Int32))] [(.int (1 : Int32)), (.ref a_FULL_PLATE)])) (fun _ k => XS.iloadN X68.here hx rfl (hb hby at_127) rfl k) ?_
      have f70 := F_FULL_PLATE_readyOnly.ext O0.2
      have f71 := F_FULL_PLATE_deflection.ext O0.2
      have f72 := E_FULL_PLATE.ext O0.2
      obtain ⟨cq69, kq69, qa69, qb69, qc69⟩ := isOf hZ e68 f72
      obtain ⟨_, _, ⟨T69, L69, k69, n69⟩, -, X69, ⟨Lc69, hQ69, l69, y69, z69⟩, st69⟩ := X68.virtualBack hx (y := (⟨"com/example/roundkeeper/roundkeeper/rulesets/sealedorders/Armor", "deflection", "(Z)I"⟩ : MethodName)) (z := (⟨"com/example/roundkeeper/roundkeeper/rulesets/sealedorders/Armor", "deflection", "(Z)I"⟩ : MethodName)) hown (mvT hZ (hw _ (List.mem_of_getElem? (i := 4) rfl))) (mvT hZ (hw _ (List.mem_of_getElem? (i := 5) rfl))) (notFace_of_selects (args := #[]) (mvT hZ (hw _ (List.mem_of_getElem? (i := 7) rfl)))) (mvT hZ (hw _ (List.mem_of_getElem? (i := 7) rfl))) (mvT hZ (hw _ (List.mem_of_getElem? (i := 6) rfl))) (by decide) (backOf (W := 0) (rm1 l Z a0 hw [] a_FULL_PLATE (1 : Int32) (0 : Int32) (3 : Int32) h0 n0 O0 (by decide) (by decide) f70 f71) hZ (hw _ (List.mem_of_getElem? (i := 8) rfl)) (hw _ (List.mem_of_getElem? (i := 2) rfl)) (by decide) (by decide)) qa69 qc69 (g := (mkF m 128 #[.val (.int i0), .val (.int i1), .val (.int (5 : Int32)), .val (.int (1 : Int32)), .val (.ref a_FULL_PLATE), .val (.int (3 : Int32)), .val (.int (3 : Int32))] [(.int (1 : Int32)), (.ref a_FULL_PLATE)])) rfl (by rw [hml]; rfl) (Steps.refl _) (argsL := [(.int (1 : Int32))]) (rest := []) (lenOf pd_0 rfl) rfl (by show 2 * 0 + _ ≤ _; exact Nat.le_of_eq rfl) (hb hby at_128) (fun _ _ => ⟨rfl, e68, (by decide : 0 + 0 ≤ _), (by decide : 0 + 0 ≤ _)⟩)
      dsimp only [Pt.U, Pt.locs, Pt.cells, Pt.slots] at X69 l69 y69 z69 st69 hQ69
      subst l69 y69 z69
      obtain ⟨rfl, Nq69, eh69⟩ := hQ69
      have N69 := Fr.app N0 Nq69
      refine Goes.via (B := T69.setTop (mkF m 131 #[.val (.int i0), .val (.int i1), .val (.int (5 : Int32)), .val (.int (1 : Int32)), .val (.ref a_FULL_PLATE), .val (.int (3 : Int32)), .val (.int (3 : Int32))] [(.int (own_def (1 : Int32) (0 : Int32) (3 : Int32)))])) st69 ?_
      rw [(by decide : (own_def (1 : Int32) (0 : Int32) (3 : Int32)) = (3 : Int32))]
      refine Goes.step (B := T69.setTop (mkF m 133 #[.val (.int i0), .val (.int i1), .val (.int (5 : Int32)), .val (.int (1 : Int32)), .val (.ref a_FULL_PLATE), .val (.int (3 : Int32)), .val (.int (3 : Int32))] [(.int (3 : Int32)), (.int (3 : Int32))])) (fun _ k => XS.iload X69.here hx rfl (hb hby at_131) rfl k) ?_
      refine Goes.step (B := T69.setTop (mkF m 136 #[.val (.int i0), .val (.int i1), .val (.int (5 : Int32)), .val (.int (1 : Int32)), .val (.ref a_FULL_PLATE), .val (.int (3 : Int32)), .val (.int (3 : Int32))] [])) (fun _ k => XS.icmpNo X69.here hx rfl (hb hby at_133) rfl (teq (by decide)).2 k) ?_
      refine Goes.step (B := T69.setTop (mkF m 137 #[.val (.int i0), .val (.int i1), .val (.int (5 : Int32)), .val (.int (1 : Int32)), .val (.ref a_FULL_PLATE), .val (.int (3 : Int32)), .val (.int (3 : Int32))] [(.int (1 : Int32))])) (fun _ k => XS.iconst X69.here hx rfl (hb hby at_136) k) ?_
      refine Goes.step (B := T69.setTop (mkF m 141 #[.val (.int i0), .val (.int i1), .val (.int (5 : Int32)), .val (.int (1 : Int32)), .val (.ref a_FULL_PLATE), .val (.int (3 : Int32)), .val (.int (3 : Int32))] [(.int (1 : Int32))])) (fun _ k => XS.goto X69.here hx rfl (pc0 := 137) (pc' := 141) rfl (hb hby at_137) (by decide) (by decide) k) ?_
      exact Goes.retN X69 hx eh69 (t := .boolean) Bd.returns (by simp) hlk (hb hby at_141) (by decide) (by decide) (⟨rfl, N69⟩)
set_option maxRecDepth 65536 in
set_option maxHeartbeats 40000000 in
theorem comes_1 {Post : Tables → Env → Array Value → State → Outcome → State → Prop} (hpost : ∀ tb e args s v u, (limb_1_1.after args s (.returned v) u = true ∧ limb_1_2.after args s (.returned v) u = true ∧ True) → FrameEnd s (.returned v) u (Jvm.fieldLocs frame_1_writes args s ++ Jvm.arrayLocs frame_1_arrays args s ++ Jvm.staticLocs frame_1_statics s) 0 0 → Post tb e args s (.returned v) u) :
    ArmFor flags0 classFile x code maxLocals ret World_1 tables_1 room_1 Calls_1 rest_1 Pre_1 Post := by
  intro l hfl _ _ p e ha hc hk s m args below hf hA hF happ hP
  obtain ⟨hcalls, hrest, hpre⟩ := hP
  obtain ⟨-, -, -, hnamed, -, -, -, hat⟩ := (Spec.applies_iff hf).mp happ
  obtain ⟨hg, hn⟩ := and_e (Cond.before_iff.mp (show (Jvm.Cond.and given_1 narrow_1).before args s = true from hpre))
  obtain ⟨hcount, hg⟩ := and_e hg
  obtain ⟨w0, w1, rfl⟩ : ∃ w0 w1 : Value, args = #[w0, w1] := by
    have hs : args.size = 2 := by simpa [Cond.value, given_1] using hcount
    obtain ⟨L⟩ := args
    match L, hs with
    | [w0, w1], _ => exact ⟨w0, w1, rfl⟩
  have hw := fun d (hd : d ∈ tables_1) => atoms_spec (ws := Jvm.Cond.code x code maxLocals ret :: tables_1) hat d (List.mem_cons_of_mem _ hd)
  have hfit : Fit s := fun {y c} hc i hi => by
    obtain ⟨ha, rfl⟩ := Array.getElem?_eq_some_iff.mp hc
    have q := List.all_eq_true.mp ((Array.all_eq_true_iff_forall_mem.mp hF) _ (Array.getElem_mem ha)) i (List.mem_range.mpr hi)
    simpa [Array.getElem?_eq_getElem hi] using q
  obtain ⟨hi0, hg0⟩ := and_e hg
  obtain ⟨i0, ei0⟩ := is_v hi0
  obtain rfl : w0 = (.int i0) := Option.some.inj ei0
  obtain ⟨i1, ei1⟩ := is_v hg0
  obtain rfl : w1 = (.int i1) := Option.some.inj ei1
  obtain ⟨hn0, hr0⟩ := and_e hn
  obtain ⟨hn1, hr1⟩ := and_e hr0
  obtain ⟨hn2, hr2⟩ := and_e hr1
  obtain ⟨hn3, hr3⟩ := and_e hr2
  obtain ⟨hn4, hr4⟩ := and_e hr3
  obtain ⟨hn5, hr5⟩ := and_e hr4
  obtain ⟨hn6, hr6⟩ := and_e hr5
  obtain ⟨hn7, hr7⟩ := and_e hr6
  obtain ⟨hn8, hr8⟩ := and_e hr7
  obtain ⟨hn9, hr9⟩ := and_e hr8
  obtain ⟨hn10, hr10⟩ := and_e hr9
  obtain ⟨hn11, hr11⟩ := and_e hr10
  obtain ⟨hn12, hr12⟩ := and_e hr11
  obtain ⟨hn13, hr13⟩ := and_e hr12
  obtain ⟨hn14, hr14⟩ := and_e hr13
  obtain ⟨hn15, hr15⟩ := and_e hr14
  obtain ⟨hn16, hr16⟩ := and_e hr15
  obtain ⟨a_UNARMORED, ev_UNARMORED⟩ := exa_v hn0
  have S_UNARMORED := Sta.start ev_UNARMORED (Or.inr ⟨(hw _ (List.mem_of_getElem? (i := 2) rfl)), (hw _ (List.mem_of_getElem? (i := 3) rfl))⟩)
  have E_UNARMORED := Exa.start ev_UNARMORED hn0
  have F_UNARMORED_deflection : Fld s s.heap a_UNARMORED "com/example/roundkeeper/roundkeeper/rulesets/sealedorders/Armor" "deflection" "I" (.int (3 : Int32)) := Fld.start ((fld_at ev_UNARMORED).symm.trans (own_eqI hn1))
  obtain ⟨a_CHAIN_MAIL, ev_CHAIN_MAIL⟩ := exa_v hn2
  have S_CHAIN_MAIL := Sta.start ev_CHAIN_MAIL (Or.inr ⟨(hw _ (List.mem_of_getElem? (i := 2) rfl)), (hw _ (List.mem_of_getElem? (i := 12) rfl))⟩)
  have E_CHAIN_MAIL := Exa.start ev_CHAIN_MAIL hn2
  have F_CHAIN_MAIL_deflection : Fld s s.heap a_CHAIN_MAIL "com/example/roundkeeper/roundkeeper/rulesets/sealedorders/Armor" "deflection" "I" (.int (1 : Int32)) := Fld.start ((fld_at ev_CHAIN_MAIL).symm.trans (own_eqI hn3))
  have F_CHAIN_MAIL_readyOnly : Fld s s.heap a_CHAIN_MAIL "com/example/roundkeeper/roundkeeper/rulesets/sealedorders/Armor" "readyOnly" "Z" (.int (0 : Int32)) := Fld.start ((fld_at ev_CHAIN_MAIL).symm.trans (own_eqI hn4))
  obtain ⟨a_HALF_PLATE, ev_HALF_PLATE⟩ := exa_v hn5
  have S_HALF_PLATE := Sta.start ev_HALF_PLATE (Or.inr ⟨(hw _ (List.mem_of_getElem? (i := 2) rfl)), (hw _ (List.mem_of_getElem? (i := 16) rfl))⟩)
  have E_HALF_PLATE := Exa.start ev_HALF_PLATE hn5
  have F_HALF_PLATE_readyOnly : Fld s s.heap a_HALF_PLATE "com/example/roundkeeper/roundkeeper/rulesets/sealedorders/Armor" "readyOnly" "Z" (.int (0 : Int32)) := Fld.start ((fld_at ev_HALF_PLATE).symm.trans (own_eqI hn6))
  have F_HALF_PLATE_deflection : Fld s s.heap a_HALF_PLATE "com/example/roundkeeper/roundkeeper/rulesets/sealedorders/Armor" "deflection" "I" (.int (2 : Int32)) := Fld.start ((fld_at ev_HALF_PLATE).symm.trans (own_eqI hn7))
  obtain ⟨a_LEATHER, ev_LEATHER⟩ := exa_v hn8
  have S_LEATHER := Sta.start ev_LEATHER (Or.inr ⟨(hw _ (List.mem_of_getElem? (i := 2) rfl)), (hw _ (List.mem_of_getElem? (i := 18) rfl))⟩)
  have E_LEATHER := Exa.start ev_LEATHER hn8
  have F_LEATHER_deflection : Fld s s.heap a_LEATHER "com/example/roundkeeper/roundkeeper/rulesets/sealedorders/Armor" "deflection" "I" (.int (2 : Int32)) := Fld.start ((fld_at ev_LEATHER).symm.trans (own_eqI hn9))
  have F_UNARMORED_readyOnly : Fld s s.heap a_UNARMORED "com/example/roundkeeper/roundkeeper/rulesets/sealedorders/Armor" "readyOnly" "Z" (.int (1 : Int32)) := Fld.start ((fld_at ev_UNARMORED).symm.trans (own_eqI hn10))
  obtain ⟨a_FULL_PLATE, ev_FULL_PLATE⟩ := exa_v hn11
  have S_FULL_PLATE := Sta.start ev_FULL_PLATE (Or.inr ⟨(hw _ (List.mem_of_getElem? (i := 2) rfl)), (hw _ (List.mem_of_getElem? (i := 20) rfl))⟩)
  have E_FULL_PLATE := Exa.start ev_FULL_PLATE hn11
  have F_FULL_PLATE_readyOnly : Fld s s.heap a_FULL_PLATE "com/example/roundkeeper/roundkeeper/rulesets/sealedorders/Armor" "readyOnly" "Z" (.int (0 : Int32)) := Fld.start ((fld_at ev_FULL_PLATE).symm.trans (own_eqI hn12))
  have F_FULL_PLATE_deflection : Fld s s.heap a_FULL_PLATE "com/example/roundkeeper/roundkeeper/rulesets/sealedorders/Armor" "deflection" "I" (.int (3 : Int32)) := Fld.start ((fld_at ev_FULL_PLATE).symm.trans (own_eqI hn13))
  obtain ⟨a_SPLINT_MAIL, ev_SPLINT_MAIL⟩ := exa_v hn14
  have S_SPLINT_MAIL := Sta.start ev_SPLINT_MAIL (Or.inr ⟨(hw _ (List.mem_of_getElem? (i := 2) rfl)), (hw _ (List.mem_of_getElem? (i := 22) rfl))⟩)
  have E_SPLINT_MAIL := Exa.start ev_SPLINT_MAIL hn14
  have F_SPLINT_MAIL_deflection : Fld s s.heap a_SPLINT_MAIL "com/example/roundkeeper/roundkeeper/rulesets/sealedorders/Armor" "deflection" "I" (.int (1 : Int32)) := Fld.start ((fld_at ev_SPLINT_MAIL).symm.trans (own_eqI hn15))
  have F_SPLINT_MAIL_readyOnly : Fld s s.heap a_SPLINT_MAIL "com/example/roundkeeper/roundkeeper/rulesets/sealedorders/Armor" "readyOnly" "Z" (.int (0 : Int32)) := Fld.start ((fld_at ev_SPLINT_MAIL).symm.trans (own_eqI hn16))
  have F_LEATHER_readyOnly : Fld s s.heap a_LEATHER "com/example/roundkeeper/roundkeeper/rulesets/sealedorders/Armor" "readyOnly" "Z" (.int (0 : Int32)) := Fld.start ((fld_at ev_LEATHER).symm.trans (own_eqI hr16))
  have FS : OwnSt s a_UNARMORED a_CHAIN_MAIL a_HALF_PLATE a_LEATHER a_FULL_PLATE a_SPLINT_MAIL := ⟨S_UNARMORED, E_UNARMORED, F_UNARMORED_deflection, S_CHAIN_MAIL, E_CHAIN_MAIL, F_CHAIN_MAIL_deflection, F_CHAIN_MAIL_readyOnly, S_HALF_PLATE, E_HALF_PLATE, F_HALF_PLATE_readyOnly, F_HALF_PLATE_deflection, S_LEATHER, E_LEATHER, F_LEATHER_deflection, F_UNARMORED_readyOnly, S_FULL_PLATE, E_FULL_PLATE, F_FULL_PLATE_readyOnly, F_FULL_PLATE_deflection, S_SPLINT_MAIL, E_SPLINT_MAIL, F_SPLINT_MAIL_deflection, F_SPLINT_MAIL_readyOnly, F_LEATHER_readyOnly⟩
  obtain ⟨n, o, h1, h2, h3, _, L, rfl, ⟨rfl, N⟩, hq⟩ := rm0 l s _ hw tables_1 i0 i1 a_UNARMORED a_CHAIN_MAIL a_HALF_PLATE a_LEATHER a_FULL_PLATE a_SPLINT_MAIL s.heap s.heap.size (Old.start s) FS p e ha hc hk s m _ below hf ((Spec.applies_iff_loose hf).mp happ).1 ⟨rfl, State.Warmed39.refl s, rfl⟩ trivial
  refine ⟨n, _, h1, h2, h3, hpost _ _ _ _ _ _ ⟨Cond.after_iff.mpr rfl, Cond.after_iff.mpr (eq_i res_at (Term.int_eval (1)) rfl), trivial⟩ ⟨hq.1, hq.2.1, (hq.2.2.sift fun y hy => Or.inr (N y hy)).mono (by decide) (by decide)⟩⟩
theorem main_1_1 : Claimed_1_1 := comes_1 fun _ _ _ _ _ _ h hF => ⟨h.1, hF⟩
theorem main_1_2 : Claimed_1_2 := comes_1 fun _ _ _ _ _ _ h hF => ⟨h.2.1, hF⟩
end Jvm.Pilot.@@N@@
namespace Jvm.Pilot.@@N@@
open Jvm Jvm.ClassFile Sem Op Lib Jvm.Free Jvm.Stand Jvm.Pilot.@@N@@.Jvm.D
/-! MADE BY PROGRAM (witnessworld.py) out of the Statement's table words and the real class files: 13 classes; the members and pool entries that the words name. The judged class is class 1, her method 1. -/
namespace start1
open Jvm.ClassFile
def u (s : String) : CpInfo := .utf8 (stringToUtf16 s)
/-- a pool by its gaps: so many unusable entries, then the entry; so many at the end -/
def gap : Nat → List CpInfo → List CpInfo
  | 0, r => r
  | n + 1, r => .unusable :: gap n r
def poolList (es : List (Nat × CpInfo)) (last : Nat) : List CpInfo := es.foldr (fun e r => gap e.1 (e.2 :: r)) (gap last [])
def pool (es : List (Nat × CpInfo)) (last : Nat) : Array CpInfo := ⟨poolList es last⟩
def fileOf (pool : Array CpInfo) (this : Nat) (attrs : Array Attribute := #[]) (ms : Array MethodInfo := #[]) (fl : Nat := 33) (sup : Nat := 0) (ifs : Array Nat := #[]) (fds : Array FieldInfo := #[]) : ClassFile where
  minorVersion := 0
  majorVersion := 65
  constantPool := pool
  accessFlags := fl
  thisClass := this
  superClass := sup
  interfaces := ifs
  fields := fds
  methods := ms
  attributes := attrs
def plain (name : String) (sup : Option ClassId) : Class where
  name := name
  kind := .ordinary
  loader := none
  accessFlags := 33
  super := sup
  interfaces := #[]
  cf := none
  fields := #[]
  methods := #[]
  instanceTypes := #[]
  staticTypes := #[]
  resolved := #[]
  callSites := []
  init := .initialized
  statics := none
  mirror := none

def pool0 : Array CpInfo := pool [(5, u "<init>"), (0, u "()V"), (1, .class_ 10), (1, u "java/lang/Object")] 113

def k0m0 : Method := { name := "<init>", desc := "()V", sig := { parameters := [], returnType := none }, accessFlags := 1, code := none }
/-- java/lang/Object -/
def k0 : Class := { plain "java/lang/Object" none with
  accessFlags := 33
  interfaces := #[]
  cf := some (fileOf pool0 8 #[] #[{ accessFlags := 1, nameIndex := 5, descriptorIndex := 6, attributes := #[] }] 33 0 #[] #[])
  fields := #[]
  methods := #[k0m0]
  instanceTypes := #[]
  staticTypes := #[]
  resolved := Array.replicate 124 none
  statics := none }

def pool1 : Array CpInfo := pool [(2, .class_ 4), (1, u "java/lang/Object"), (0, u "<init>"), (0, u "()V"), (0, .integer 2147483647), (0, .fieldref 9 10), (0, .class_ 11), (0, .nameAndType 12 13), (0, u "com/example/roundkeeper/roundkeeper/rulesets/sealedorders/Armor"), (0, u "UNARMORED"), (0, u "Lcom/example/roundkeeper/roundkeeper/rulesets/sealedorders/Armor;"), (0, .fieldref 9 15), (0, .nameAndType 16 13), (0, u "LEATHER"), (0, .fieldref 9 18), (0, .nameAndType 19 13), (0, u "CHAIN_MAIL"), (0, .fieldref 9 21), (0, .nameAndType 22 13), (0, u "SPLINT_MAIL"), (0, .fieldref 9 24), (0, .nameAndType 25 13), (0, u "HALF_PLATE"), (0, .fieldref 9 27), (0, .nameAndType 28 13), (0, u "FULL_PLATE"), (0, .methodref 9 30), (0, .nameAndType 31 32), (0, u "deflection"), (0, u "(Z)I"), (0, .class_ 34), (0, u "com/example/roundkeeper/roundkeeper/rulesets/sealedorders/ArmorDeflectionPinLaw"), (2, u "law"), (0, u "(II)Z")] 3

def k1m0 : Method := { name := "<init>", desc := "()V", sig := { parameters := [], returnType := none }, accessFlags := 2, code := none }
def k1c1 : Code := { maxStack := 2, maxLocals := 7, code := code, exceptionTable := #[], attributes := #[] }
def k1m1 : Method := { name := "law", desc := "(II)Z", sig := { parameters := [.int, .int], returnType := some .boolean }, accessFlags := 9, code := some k1c1 }
/-- com/example/roundkeeper/roundkeeper/rulesets/sealedorders/ArmorDeflectionPinLaw -/
def k1 : Class := { plain "com/example/roundkeeper/roundkeeper/rulesets/sealedorders/ArmorDeflectionPinLaw" (some 0) with
  accessFlags := 49
  interfaces := #[]
  cf := some (fileOf pool1 33 #[] #[{ accessFlags := 2, nameIndex := 5, descriptorIndex := 6, attributes := #[] }, { accessFlags := 9, nameIndex := 37, descriptorIndex := 38, attributes := #[] }] 49 2 #[] #[])
  fields := #[]
  methods := #[k1m0, k1m1]
  instanceTypes := #[]
  staticTypes := #[]
  resolved := Array.replicate 42 none
  statics := none }

def pool2 : Array CpInfo := pool [(1, .class_ 2), (0, u "java/lang/constant/Constable"), (0, .class_ 4), (0, u "java/lang/Object")] 6

/-- java/lang/constant/Constable -/
def k2 : Class := { plain "java/lang/constant/Constable" (some 0) with
  accessFlags := 1537
  interfaces := #[]
  cf := some (fileOf pool2 1 #[] #[] 1537 3 #[] #[])
  fields := #[]
  methods := #[]
  instanceTypes := #[]
  staticTypes := #[]
  resolved := Array.replicate 11 none
  statics := none }

def pool3 : Array CpInfo := pool [(1, .class_ 2), (0, u "java/lang/Comparable"), (0, .class_ 4), (0, u "java/lang/Object")] 7

/-- java/lang/Comparable -/
def k3 : Class := { plain "java/lang/Comparable" (some 0) with
  accessFlags := 1537
  interfaces := #[]
  cf := some (fileOf pool3 1 #[] #[] 1537 3 #[] #[])
  fields := #[]
  methods := #[]
  instanceTypes := #[]
  staticTypes := #[]
  resolved := Array.replicate 12 none
  statics := none }

def pool4 : Array CpInfo := pool [(1, .class_ 2), (0, u "java/io/Serializable"), (0, .class_ 4), (0, u "java/lang/Object")] 2

/-- java/io/Serializable -/
def k4 : Class := { plain "java/io/Serializable" (some 0) with
  accessFlags := 1537
  interfaces := #[]
  cf := some (fileOf pool4 1 #[] #[] 1537 3 #[] #[])
  fields := #[]
  methods := #[]
  instanceTypes := #[]
  staticTypes := #[]
  resolved := Array.replicate 7 none
  statics := none }

def pool5 : Array CpInfo := pool [(2, .class_ 4), (1, u "java/lang/Enum"), (0, u "name"), (0, u "Ljava/lang/String;"), (2, u "ordinal"), (0, u "I"), (1, .class_ 14), (1, u "java/lang/Object"), (4, u "hash"), (86, .class_ 108), (1, u "java/lang/Enum$EnumDesc"), (2, .class_ 112), (0, u "java/lang/constant/Constable"), (0, .class_ 114), (0, u "java/lang/Comparable"), (0, .class_ 116), (0, u "java/io/Serializable")] 87

/-- java/lang/Enum -/
def k5 : Class := { plain "java/lang/Enum" (some 0) with
  accessFlags := 1057
  interfaces := #[2, 3, 4]
  cf := some (fileOf pool5 2 #[.nestMembers #[106]] #[] 1057 12 #[111, 113, 115] #[{ accessFlags := 18, nameIndex := 5, descriptorIndex := 6, attributes := #[] }, { accessFlags := 18, nameIndex := 9, descriptorIndex := 10, attributes := #[] }, { accessFlags := 2, nameIndex := 19, descriptorIndex := 10, attributes := #[] }])
  fields := #[{ name := "name", type := (.object "java/lang/String"), accessFlags := 18, slot := 0, constantValue := 0 }, { name := "ordinal", type := .int, accessFlags := 18, slot := 1, constantValue := 0 }, { name := "hash", type := .int, accessFlags := 2, slot := 2, constantValue := 0 }]
  methods := #[]
  instanceTypes := #[(.object "java/lang/String"), .int, .int]
  staticTypes := #[]
  resolved := Array.replicate 204 none
  statics := none }

def pool6 : Array CpInfo := pool [(1, .class_ 2), (0, u "com/example/roundkeeper/roundkeeper/engine/Labelled"), (0, .class_ 4), (0, u "java/lang/Object")] 4

/-- com/example/roundkeeper/roundkeeper/engine/Labelled -/
def k6 : Class := { plain "com/example/roundkeeper/roundkeeper/engine/Labelled" (some 0) with
  accessFlags := 1537
  interfaces := #[]
  cf := some (fileOf pool6 1 #[] #[] 1537 3 #[] #[])
  fields := #[]
  methods := #[]
  instanceTypes := #[]
  staticTypes := #[]
  resolved := Array.replicate 9 none
  statics := none }

def pool7 : Array CpInfo := pool [(1, .class_ 2), (0, u "com/example/roundkeeper/roundkeeper/rulesets/sealedorders/Armor"), (2, u "UNARMORED"), (0, u "Lcom/example/roundkeeper/roundkeeper/rulesets/sealedorders/Armor;"), (2, u "LEATHER"), (2, u "CHAIN_MAIL"), (2, u "SPLINT_MAIL"), (2, u "HALF_PLATE"), (2, u "FULL_PLATE"), (2, u "$VALUES"), (0, u "[Lcom/example/roundkeeper/roundkeeper/rulesets/sealedorders/Armor;"), (6, .class_ 34), (1, u "java/lang/Enum"), (8, u "label"), (0, u "Ljava/lang/String;"), (0, .fieldref 1 46), (0, .nameAndType 47 48), (0, u "deflection"), (0, u "I"), (0, .fieldref 1 50), (0, .nameAndType 51 52), (0, u "readyOnly"), (0, u "Z"), (2, u "absorb"), (25, .class_ 82), (0, u "com/example/roundkeeper/roundkeeper/engine/Labelled"), (8, u "(Z)I")] 7

def k7c0 : Code := { maxStack := 1, maxLocals := 2, code := prog_26_method_5_code, exceptionTable := #[], attributes := #[] }
def k7m0 : Method := { name := "deflection", desc := "(Z)I", sig := { parameters := [.boolean], returnType := some .int }, accessFlags := 0, code := some k7c0 }
/-- com/example/roundkeeper/roundkeeper/rulesets/sealedorders/Armor -/
def k7 : Class := { plain "com/example/roundkeeper/roundkeeper/rulesets/sealedorders/Armor" (some 5) with
  accessFlags := 16432
  interfaces := #[6]
  cf := some (fileOf pool7 1 #[] #[{ accessFlags := 0, nameIndex := 47, descriptorIndex := 91, attributes := #[] }] 16432 32 #[81] #[{ accessFlags := 16409, nameIndex := 5, descriptorIndex := 6, attributes := #[] }, { accessFlags := 16409, nameIndex := 9, descriptorIndex := 6, attributes := #[] }, { accessFlags := 16409, nameIndex := 12, descriptorIndex := 6, attributes := #[] }, { accessFlags := 16409, nameIndex := 15, descriptorIndex := 6, attributes := #[] }, { accessFlags := 16409, nameIndex := 18, descriptorIndex := 6, attributes := #[] }, { accessFlags := 16409, nameIndex := 21, descriptorIndex := 6, attributes := #[] }, { accessFlags := 18, nameIndex := 43, descriptorIndex := 44, attributes := #[] }, { accessFlags := 18, nameIndex := 47, descriptorIndex := 48, attributes := #[] }, { accessFlags := 18, nameIndex := 51, descriptorIndex := 52, attributes := #[] }, { accessFlags := 18, nameIndex := 55, descriptorIndex := 48, attributes := #[] }, { accessFlags := 4122, nameIndex := 24, descriptorIndex := 25, attributes := #[] }])
  fields := #[{ name := "UNARMORED", type := (.object "com/example/roundkeeper/roundkeeper/rulesets/sealedorders/Armor"), accessFlags := 16409, slot := 0, constantValue := 0 }, { name := "LEATHER", type := (.object "com/example/roundkeeper/roundkeeper/rulesets/sealedorders/Armor"), accessFlags := 16409, slot := 1, constantValue := 0 }, { name := "CHAIN_MAIL", type := (.object "com/example/roundkeeper/roundkeeper/rulesets/sealedorders/Armor"), accessFlags := 16409, slot := 2, constantValue := 0 }, { name := "SPLINT_MAIL", type := (.object "com/example/roundkeeper/roundkeeper/rulesets/sealedorders/Armor"), accessFlags := 16409, slot := 3, constantValue := 0 }, { name := "HALF_PLATE", type := (.object "com/example/roundkeeper/roundkeeper/rulesets/sealedorders/Armor"), accessFlags := 16409, slot := 4, constantValue := 0 }, { name := "FULL_PLATE", type := (.object "com/example/roundkeeper/roundkeeper/rulesets/sealedorders/Armor"), accessFlags := 16409, slot := 5, constantValue := 0 }, { name := "label", type := (.object "java/lang/String"), accessFlags := 18, slot := 3, constantValue := 0 }, { name := "deflection", type := .int, accessFlags := 18, slot := 4, constantValue := 0 }, { name := "readyOnly", type := .boolean, accessFlags := 18, slot := 5, constantValue := 0 }, { name := "absorb", type := .int, accessFlags := 18, slot := 6, constantValue := 0 }, { name := "$VALUES", type := (.array (.object "com/example/roundkeeper/roundkeeper/rulesets/sealedorders/Armor")), accessFlags := 4122, slot := 6, constantValue := 0 }]
  methods := #[k7m0]
  instanceTypes := #[(.object "java/lang/String"), .int, .int, (.object "java/lang/String"), .int, .boolean, .int]
  staticTypes := #[(.object "com/example/roundkeeper/roundkeeper/rulesets/sealedorders/Armor"), (.object "com/example/roundkeeper/roundkeeper/rulesets/sealedorders/Armor"), (.object "com/example/roundkeeper/roundkeeper/rulesets/sealedorders/Armor"), (.object "com/example/roundkeeper/roundkeeper/rulesets/sealedorders/Armor"), (.object "com/example/roundkeeper/roundkeeper/rulesets/sealedorders/Armor"), (.object "com/example/roundkeeper/roundkeeper/rulesets/sealedorders/Armor"), (.array (.object "com/example/roundkeeper/roundkeeper/rulesets/sealedorders/Armor"))]
  resolved := Array.replicate 99 none
  statics := some 0 }

def pool8 : Array CpInfo := pool [(1, u "java/lang/Cloneable"), (0, .class_ 1), (0, u "java/lang/Object"), (0, .class_ 3)] 3

/-- java/lang/Cloneable -/
def k8 : Class := { plain "java/lang/Cloneable" (some 0) with
  accessFlags := 1537
  interfaces := #[]
  cf := some (fileOf pool8 2 #[] #[] 1537 4 #[] #[])
  fields := #[]
  methods := #[]
  instanceTypes := #[]
  staticTypes := #[]
  resolved := Array.replicate 8 none
  statics := none }

/-- the primitive byte -/
def k9 : Class := { plain "byte" none with kind := .primitive 'B', accessFlags := 0x411 }
/-- [B -/
def k10 : Class := { plain "[B" (some 0) with kind := .array 9 .byte, interfaces := #[8, 4], accessFlags := 1041 }

/-- the primitive int -/
def k11 : Class := { plain "int" none with kind := .primitive 'I', accessFlags := 0x411 }
/-- [I -/
def k12 : Class := { plain "[I" (some 0) with kind := .array 11 .int, interfaces := #[8, 4], accessFlags := 1041 }

def heap : Heap := #[{ cls := 7, slots := #[.ref 1, .ref 2, .ref 3, .ref 4, .ref 5, .ref 6, .null], vm := .statics 7 },
  { cls := 7, slots := #[.null, .int 0, .int 0, .null, .int 3, .int 1, .int 0], vm := .none },
  { cls := 7, slots := #[.null, .int 1, .int 0, .null, .int 2, .int 0, .int 0], vm := .none },
  { cls := 7, slots := #[.null, .int 2, .int 0, .null, .int 1, .int 0, .int 0], vm := .none },
  { cls := 7, slots := #[.null, .int 3, .int 0, .null, .int 1, .int 0, .int 0], vm := .none },
  { cls := 7, slots := #[.null, .int 4, .int 0, .null, .int 2, .int 0, .int 0], vm := .none },
  { cls := 7, slots := #[.null, .int 5, .int 0, .null, .int 3, .int 0, .int 0], vm := .none }]
def classes : Array Class := #[k0, k1, k2, k3, k4, k5, k6, k7, k8, k9, k10, k11, k12]
def interned : List (Array UInt16 × Addr) := []
def slotsUsed : Nat := 49
def theMethod : MethodId := ⟨1, 1⟩
def args0 : Array Value := #[.int 5, .int 1]
def aboutOver (below : List Frame) : State where
  vm := { classes := classes, interned := interned.toArray }
  heap := heap
  slotsUsed := slotsUsed
  threads := #[{ frames := .invoking theMethod args0 :: below }]
def below0 : List Frame := [.native { method := ⟨0, 0⟩, args := #[] }]
def about1 : State := aboutOver below0
def p0 : Program := .bare "" "" ""
def e0 : Env := launch0.env 0 0 0
theorem w_frames : about1.frames = Frame.invoking theMethod args0 :: below0 := rfl
set_option maxRecDepth 65536 in
theorem w_args : argsFit about1.vm theMethod args0 = true := by decide +kernel
set_option maxRecDepth 65536 in
theorem w_heap : heapFits about1 = true := by decide +kernel
set_option maxRecDepth 65536 in
theorem w_runnable : about1.curStatus? = some .runnable := by decide +kernel
set_option maxRecDepth 65536 in
theorem w_alone : about1.alone = true := by decide +kernel
set_option maxRecDepth 65536 in
theorem w_named : about1.methodNamed? x = some theMethod := by decide +kernel
set_option maxRecDepth 65536 in
theorem w_hears : about1.hears theMethod below0 = true := by decide +kernel
set_option maxRecDepth 65536 in
theorem w_ripe : about1.ripe theMethod args0 below0 = true := by decide +kernel
theorem w_running : about1.status = .running := rfl
set_option maxRecDepth 65536 in
theorem w_room : about1.hasRoom e0.platform room_1 = true :=
  launch0.hasRoom_least _ room_1 (by decide +kernel) (by decide +kernel) (by decide +kernel) (by decide +kernel) (by decide +kernel) (by decide +kernel)
theorem allAtoms_all (ts : List Jvm.Cond) (a : Array Jvm.Value) (st : Jvm.State) : (allAtoms ts).before a st = ts.all (fun c => c.before a st) := by
  induction ts with
  | nil => rfl
  | cons c t ih =>
    show (Jvm.Cond.and c (allAtoms t)).before a st = _
    rw [Jvm.Cond.before_and, ih, List.all_cons]
def words1 : List Jvm.Cond := Jvm.Cond.code x code maxLocals ret :: tables_1
/-- a 'code' word, met by the world's own term for the bytes: nothing is compared byte by byte -/
theorem code_word {y : MethodName} {bytes : ByteArray} {mx : Nat} {rt : Option FieldType} {a : Array Value} {s : State} {m : MethodId} {meth : Method} {c : Code} (h1 : s.methodNamed? y = some m) (h2 : s.vm.method? m = some meth) (h3 : meth.code = some c) (h4 : c.code = bytes)
    (h5 : (c.maxLocals == mx && c.exceptionTable.isEmpty && decide (c.maxStack ≤ mostOperands) && decide (meth.sig.returnType = rt) && !meth.locks && decide (parseMethodDescriptor y.desc = some meth.sig)) = true) : (Jvm.Cond.code y bytes mx rt).before a s = true := by
  simp only [Bool.and_eq_true, beq_iff_eq, Bool.not_eq_true', decide_eq_true_eq] at h5
  obtain ⟨⟨⟨⟨⟨g1, g2⟩, g3⟩, g4⟩, g5⟩, g6⟩ := h5
  simp [Cond.before, Cond.holds, Cond.value, h1, h2, h3, h4, g1, g2, g3, g4, g5, g6]
def isCode : Jvm.Cond → Bool
  | .code _ _ _ _ => true
  | _ => false
theorem all_split {L : List Jvm.Cond} {P : Jvm.Cond → Bool} (h1 : L.all (fun c => isCode c || P c) = true) (h2 : ∀ c ∈ L.filter isCode, P c = true) : L.all P = true := by
  refine List.all_eq_true.mpr fun c hc => ?_
  have h := List.all_eq_true.mp h1 c hc
  rcases Bool.eq_false_or_eq_true (isCode c) with hi | hi
  · exact h2 c (List.mem_filter.mpr ⟨hc, hi⟩)
  · simpa [hi] using h
set_option maxRecDepth 65536 in
theorem w_c0 : (Jvm.Cond.code x code maxLocals ret).before args0 about1 = true := code_word (m := ⟨1, 1⟩) (meth := k1m1) (c := k1c1) (by decide +kernel) rfl rfl rfl (by decide +kernel)
set_option maxRecDepth 65536 in
theorem w_c1 : (Jvm.Cond.code ({ cls := "com/example/roundkeeper/roundkeeper/rulesets/sealedorders/Armor", name := "deflection", desc := "(Z)I" } : Jvm.MethodName) prog_26_method_5_code (2 : Nat) (Option.some Jvm.ClassFile.FieldType.int)).before args0 about1 = true := code_word (m := ⟨7, 0⟩) (meth := k7m0) (c := k7c0) (by decide +kernel) rfl rfl rfl (by decide +kernel)
def codes1 : List Jvm.Cond := [Jvm.Cond.code x code maxLocals ret, Jvm.Cond.code ({ cls := "com/example/roundkeeper/roundkeeper/rulesets/sealedorders/Armor", name := "deflection", desc := "(Z)I" } : Jvm.MethodName) prog_26_method_5_code (2 : Nat) (Option.some Jvm.ClassFile.FieldType.int)]
set_option maxRecDepth 65536 in
theorem codes_eq : words1.filter isCode = codes1 := rfl
theorem w_codes : ∀ c ∈ words1.filter isCode, c.before args0 about1 = true := by
  rw [codes_eq]
  intro c hc
  simp only [codes1, List.mem_cons, List.not_mem_nil, or_false] at hc
  rcases hc with rfl | rfl
  · exact w_c0
  · exact w_c1
set_option maxRecDepth 65536 in
theorem w_t1 : words1.all (fun c => isCode c || c.before args0 about1) = true := by decide +kernel
theorem w_tables : (allAtoms (Jvm.Cond.code x code maxLocals ret :: tables_1)).before args0 about1 = true := by
  rw [allAtoms_all]
  show words1.all (fun c => c.before args0 about1) = true
  refine all_split ?_ w_codes
  rw [w_t1]
set_option maxRecDepth 65536 in
theorem w_case : (Jvm.Cond.and given_1 narrow_1).before args0 about1 = true := by decide +kernel
theorem w_applies : (headSpec (Jvm.Cond.code x code maxLocals ret :: tables_1) room_1).applies x e0.platform about1 = true :=
  (Spec.applies_iff w_frames).mpr ⟨w_running, w_runnable, w_alone, w_named, w_hears, w_ripe, w_room, w_tables⟩
theorem atStart : AtStart classFile x code maxLocals ret World_1 tables_1 room_1 Calls_1 rest_1 Pre_1 launch0 p0 e0 about1 theMethod args0 below0 :=
  ⟨lists_1, trivial, launch0.admits_env _ _ _, launch0.least_env, fairChoices_fair.cas, fairChoices_fair.clock, w_frames, w_args, w_heap, w_applies, trivial, trivial, w_case⟩
end start1
theorem witness_1 : WitnessClaimed_1 := ⟨start1.p0, start1.e0, start1.about1, start1.theMethod, start1.args0, start1.below0, start1.atStart⟩
end Jvm.Pilot.@@N@@
