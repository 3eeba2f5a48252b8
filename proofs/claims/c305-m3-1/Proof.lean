import JvmDerived
import JvmDerived.Pilot.@@N@@Statement
import JvmDerived.Pilot.@@N@@Code
set_option linter.unusedVariables false
set_option linter.unusedSimpArgs false
namespace Jvm.RoadKit
open Sem ClassFile Op Lib Jvm.Stand Jvm.Free Jvm.LawKit
section Own
variable {p : Program} {l : Launch} {e : Env} {R : Room} {s : State} {m : MethodId} {args : Array Value} {below : List Frame} {meth : Method} {c : Code} {T : State} {locs : List Loc} {cells slots : Nat} {Q : Option Value → Heap → List Loc → Prop} {k n : Nat} {A B : State} {h : Heap}
/-- from the state A the run comes to its end, with what Q says -/
def Goes (p : Program) (e : Env) (below : List Frame) (s : State) (Q : Option Value → Heap → List Loc → Prop) (k n : Nat) (A : State) : Prop :=
  ∃ s₂ o, Steps p.tables e below A s₂ ∧ s₂.status = .running ∧ Ended s₂ below o ∧ ∃ v L, o = .returned v ∧ Q v s₂.heap L ∧ FrameEnd s o s₂ L k n
theorem Goes.step (q : ∀ t, Steps p.tables e below B t → Steps p.tables e below A t) (g : Goes p e below s Q k n B) : Goes p e below s Q k n A := by
  obtain ⟨s₂, o, h1, h2⟩ := g
  exact ⟨s₂, o, q _ h1, h2⟩
theorem Goes.via (q : Steps p.tables e below A B) (g : Goes p e below s Q k n B) : Goes p e below s Q k n A := by
  obtain ⟨s₂, o, h1, h2⟩ := g
  exact ⟨s₂, o, q.trans h1, h2⟩
theorem Goes.enter {g g' : JFrame} (q : g = g') (h : Goes p e below s Q k n (T.setTop g')) : Goes p e below s Q k n (T.setTop g) := q ▸ h
theorem Goes.out (X : Stand p l e R s m args below meth c T locs cells slots) (eT : T.heap = h) {v : Option Value} (hv : meth.sig.returnType = none → v = none) (hlk : meth.locks = false)
    (hs : ∀ fs, (∀ (f : JFrame) (acts : List Action), f.method = m → f.locked = none → f.entered = [] → (doReturn e (T.setTop f) acts v).1 = T.setFrames fs) → Steps p.tables e below A (T.setFrames fs)) (hk : cells ≤ k) (hn : slots ≤ n) (hQ : Q v h locs) : Goes p e below s Q k n A := by
  obtain ⟨fs, hr, hrun, hended, hW, hsame⟩ := X.leave (v := v) hv hlk
  exact ⟨_, _, hs fs hr, hrun, hended, _, _, rfl, (by show Q v T.heap locs; rw [eT]; exact hQ), ⟨_, rfl⟩, hW, hsame.mono hk hn⟩
theorem own_some {t : FieldType} {v : Option Value} (h : meth.sig.returnType = some t) : meth.sig.returnType = none → v = none := fun q => by rw [h] at q; cases q
theorem Goes.retI (X : Stand p l e R s m args below meth c T locs cells slots) (hx : p.tables.exec = Jvm.exec) (eT : T.heap = h) {pc : Nat} {Ls : Array Slot} {z : Int32} {rest : List Value} (hret : meth.sig.returnType = some .int) (hlk : meth.locks = false) (hd : decode c.code pc = .ok (.ireturn, 1)) (hk : cells ≤ k) (hn : slots ≤ n) (hQ : Q (some (.int z)) h locs) :
    Goes p e below s Q k n (T.setTop (mkF m pc Ls (.int z :: rest))) :=
  Goes.out X eT (own_some hret) hlk (fun fs hr => retOut X hx hret rfl (Or.inl ⟨rfl, Or.inl rfl, z, rfl⟩) hd hr) hk hn hQ
theorem Goes.retN (X : Stand p l e R s m args below meth c T locs cells slots) (hx : p.tables.exec = Jvm.exec) (eT : T.heap = h) {pc : Nat} {Ls : Array Slot} {z : Int32} {t : FieldType} {rest : List Value} (hret : meth.sig.returnType = some t) (ht : t = .boolean ∨ t = .byte ∨ t = .char ∨ t = .short) (hlk : meth.locks = false) (hd : decode c.code pc = .ok (.ireturn, 1)) (hk : cells ≤ k) (hn : slots ≤ n) (hQ : Q (some (.int (nar t z))) h locs) :
    Goes p e below s Q k n (T.setTop (mkF m pc Ls (.int z :: rest))) :=
  Goes.out X eT (own_some hret) hlk (fun fs hr => Jvm.RoadKit.retN X hx hret ht hd hr) hk hn hQ
theorem Goes.retV (X : Stand p l e R s m args below meth c T locs cells slots) (hx : p.tables.exec = Jvm.exec) (eT : T.heap = h) {pc : Nat} {Ls : Array Slot} (hret : meth.sig.returnType = none) (hlk : meth.locks = false) (hd : decode c.code pc = .ok (.return_, 1)) (hk : cells ≤ k) (hn : slots ≤ n) (hQ : Q none h locs) :
    Goes p e below s Q k n (T.setTop (mkF m pc Ls [])) :=
  Goes.out X eT (fun _ => rfl) hlk (fun fs hr => X.returnOut hx hret hd hr) hk hn hQ
theorem Goes.retJ (X : Stand p l e R s m args below meth c T locs cells slots) (hx : p.tables.exec = Jvm.exec) (eT : T.heap = h) {pc : Nat} {Ls : Array Slot} {z : Int64} {rest : List Value} (hret : meth.sig.returnType = some .long) (hlk : meth.locks = false) (hd : decode c.code pc = .ok (.lreturn, 1)) (hk : cells ≤ k) (hn : slots ≤ n) (hQ : Q (some (.long z)) h locs) :
    Goes p e below s Q k n (T.setTop (mkF m pc Ls (.long z :: rest))) :=
  Goes.out X eT (own_some hret) hlk (fun fs hr => retOut X hx hret rfl (Or.inr (Or.inl ⟨rfl, rfl, z, rfl⟩)) hd hr) hk hn hQ
theorem Goes.retD (X : Stand p l e R s m args below meth c T locs cells slots) (hx : p.tables.exec = Jvm.exec) (eT : T.heap = h) {pc : Nat} {Ls : Array Slot} {z : UInt64} {rest : List Value} (hret : meth.sig.returnType = some .double) (hlk : meth.locks = false) (hd : decode c.code pc = .ok (.dreturn, 1)) (hk : cells ≤ k) (hn : slots ≤ n) (hQ : Q (some (.double z)) h locs) :
    Goes p e below s Q k n (T.setTop (mkF m pc Ls (.double z :: rest))) :=
  Goes.out X eT (own_some hret) hlk (fun fs hr => retOut X hx hret rfl (Or.inr (Or.inr (Or.inl ⟨rfl, rfl, z, rfl⟩))) hd hr) hk hn hQ
theorem own_narR {t : FieldType} {w : Value} (h : t.isReference = true) : narrow t w = w := by cases t <;> first | rfl | (cases w <;> first | rfl | cases h)
theorem Goes.retA (X : Stand p l e R s m args below meth c T locs cells slots) (hx : p.tables.exec = Jvm.exec) (eT : T.heap = h) {pc : Nat} {Ls : Array Slot} {w : Value} {t : FieldType} {rest : List Value} (hret : meth.sig.returnType = some t) (ht : t.isReference = true) (hw : w.isRef = true) (hlk : meth.locks = false) (hd : decode c.code pc = .ok (.areturn, 1)) (hk : cells ≤ k) (hn : slots ≤ n) (hQ : Q (some w) h locs) :
    Goes p e below s Q k n (T.setTop (mkF m pc Ls (w :: rest))) :=
  Goes.out X eT (own_some hret) hlk (fun fs hr => retOut X hx hret (own_narR ht) (Or.inr (Or.inr (Or.inr (Or.inr ⟨rfl, ht, hw⟩)))) hd hr) hk hn hQ
theorem own_z {Z : State} {n0 : Nat} (O : Old Z n0 h) : n0 ≤ h.size := O.1 ▸ O.2.1
end Own
end Jvm.RoadKit
namespace Jvm.Pilot.@@N@@
open Jvm Jvm.ClassFile Sem Op Lib Jvm.Free Jvm.Stand Jvm.LawKit Jvm.RoadKit Bundle Jvm.Pilot.@@N@@.Jvm.D
theorem own_eqI {args : Array Value} {first s : State} {o : Option Outcome} {idx : List Nat} {t : Term} {v : Int32} (h : (Jvm.Cond.eq t (.int v)).value args first o s idx = some true) : t.eval args first o idx s = some (.int v) := by
  obtain ⟨x, y, hx, hy, k1, k2⟩ := cmp_v (Or.inl h)
  rw [Term.int_eval] at hy
  obtain rfl := Option.some.inj hy
  obtain ⟨z, rfl⟩ := k2
  have q : z = v := by simpa [Jvm.Cond.value, hx, Term.int_eval] using h
  rw [hx, q]
theorem own_eqR {args : Array Value} {first s : State} {o : Option Outcome} {idx : List Nat} {t u : Term} {a : Addr} (hu : u.eval args first o idx s = some (.ref a)) (h : (Jvm.Cond.eq t u).value args first o s idx = some true) : t.eval args first o idx s = some (.ref a) := by
  obtain ⟨x, y, hx, hy, k1, k2⟩ := cmp_v (Or.inl h)
  obtain rfl := Option.some.inj (hu.symm.trans hy)
  obtain ⟨-, q⟩ := k2
  have q2 := gotT (eq_R hx hu q rfl) h
  rw [hx, q2]
theorem own_len {args : Array Value} {s : State} {t : Term} {n : Int32} {a : Addr} {cl : Cell} {ty : FieldType} (A : Arr s s.heap a cl ty) (ev : t.eval args s none [] s = some (.ref a)) (h : (Jvm.Cond.eq (.length t) (.int n)).value args s none s [] = some true) : cl.slots.size < 2 ^ 31 ∧ cl.slots.size.toInt32 = n := by
  have q := own_eqI h
  have f := A.fin (Vm.Alike.refl _)
  by_cases hl : cl.slots.size < 2 ^ 31
  · rw [len_f ev f hl] at q
    exact ⟨hl, Value.int.inj (Option.some.inj q)⟩
  · simp [Term.eval, ev, f, hl] at q
theorem own_el {args : Array Value} {s : State} {t : Term} {j v : Int32} {a : Addr} {cl : Cell} {ty : FieldType} (A : Arr s s.heap a cl ty) (ev : t.eval args s none [] s = some (.ref a)) (h : (Jvm.Cond.eq (.elem t (.int j)) (.int v)).value args s none s [] = some true) : cl.slots[j.toNatClampNeg]? = some (.int v) := (elem_in (own_eqI h) ev (Term.int_eval j) A.1).2
theorem own_elR {args : Array Value} {s : State} {t u : Term} {j : Int32} {a b : Addr} {cl : Cell} {ty : FieldType} (A : Arr s s.heap a cl ty) (ev : t.eval args s none [] s = some (.ref a)) (hu : u.eval args s none [] s = some (.ref b)) (h : (Jvm.Cond.eq (.elem t (.int j)) u).value args s none s [] = some true) : cl.slots[j.toNatClampNeg]? = some (.ref b) := (elem_in (own_eqR hu h) ev (Term.int_eval j) A.1).2
def OwnSt (Z : State) (a_COMPLEX_RELOAD : Addr) (a_QUICK_RELOAD : Addr) (a_THROWN : Addr) (a_NONE : Addr) : Prop := Sta Z Z.heap "com/example/roundkeeper/roundkeeper/rulesets/sealedorders/Weapon$Loading" "COMPLEX_RELOAD" "Lcom/example/roundkeeper/roundkeeper/rulesets/sealedorders/Weapon$Loading;" (.ref a_COMPLEX_RELOAD) ∧ Exa Z Z.heap a_COMPLEX_RELOAD "com/example/roundkeeper/roundkeeper/rulesets/sealedorders/Weapon$Loading" ∧ Sta Z Z.heap "com/example/roundkeeper/roundkeeper/rulesets/sealedorders/Weapon$Loading" "QUICK_RELOAD" "Lcom/example/roundkeeper/roundkeeper/rulesets/sealedorders/Weapon$Loading;" (.ref a_QUICK_RELOAD) ∧ Exa Z Z.heap a_QUICK_RELOAD "com/example/roundkeeper/roundkeeper/rulesets/sealedorders/Weapon$Loading" ∧ Sta Z Z.heap "com/example/roundkeeper/roundkeeper/rulesets/sealedorders/Weapon$Loading" "THROWN" "Lcom/example/roundkeeper/roundkeeper/rulesets/sealedorders/Weapon$Loading;" (.ref a_THROWN) ∧ Exa Z Z.heap a_THROWN "com/example/roundkeeper/roundkeeper/rulesets/sealedorders/Weapon$Loading" ∧ Sta Z Z.heap "com/example/roundkeeper/roundkeeper/rulesets/sealedorders/Weapon$Loading" "NONE" "Lcom/example/roundkeeper/roundkeeper/rulesets/sealedorders/Weapon$Loading;" (.ref a_NONE) ∧ Exa Z Z.heap a_NONE "com/example/roundkeeper/roundkeeper/rulesets/sealedorders/Weapon$Loading"
theorem own_4 (r : Int64) : ((r + r) + r) + r = (4 : Int64) * r := by
  apply Int64.toInt_inj.mp
  have e4 : (4 : Int64).toInt = 4 := by decide
  have a := c_ladd r r
  have b := c_ladd (r + r) r
  have c := c_ladd ((r + r) + r) r
  have d := c_lmul 4 r
  rw [e4] at d
  have ra := rng64 (((r + r) + r) + r)
  have rd := rng64 ((4 : Int64) * r)
  omega
theorem d1_0 : decode method_2_code 0 = .ok (.iload_n 0, 1) := by decide +kernel
theorem d1_1 : decode method_2_code 1 = .ok (.iconst 3, 1) := by decide +kernel
theorem d1_2 : decode method_2_code 2 = .ok (.iand, 1) := by decide +kernel
theorem d1_3 : decode method_2_code 3 = .ok (.istore_n 1, 1) := by decide +kernel
theorem d1_4 : decode method_2_code 4 = .ok (.iload_n 1, 1) := by decide +kernel
theorem d1_5 : decode method_2_code 5 = .ok (.ifCond .ne 7, 3) := by decide +kernel
theorem d1_8 : decode method_2_code 8 = .ok (.getstatic 7, 3) := by decide +kernel
theorem d1_11 : decode method_2_code 11 = .ok (.areturn, 1) := by decide +kernel
theorem d1_12 : decode method_2_code 12 = .ok (.iload_n 1, 1) := by decide +kernel
theorem d1_13 : decode method_2_code 13 = .ok (.iconst 1, 1) := by decide +kernel
theorem d1_14 : decode method_2_code 14 = .ok (.if_icmp .ne 7, 3) := by decide +kernel
theorem d1_17 : decode method_2_code 17 = .ok (.getstatic 13, 3) := by decide +kernel
theorem d1_20 : decode method_2_code 20 = .ok (.areturn, 1) := by decide +kernel
theorem d1_21 : decode method_2_code 21 = .ok (.iload_n 1, 1) := by decide +kernel
theorem d1_22 : decode method_2_code 22 = .ok (.iconst 2, 1) := by decide +kernel
theorem d1_23 : decode method_2_code 23 = .ok (.if_icmp .ne 7, 3) := by decide +kernel
theorem d1_26 : decode method_2_code 26 = .ok (.getstatic 16, 3) := by decide +kernel
theorem d1_29 : decode method_2_code 29 = .ok (.areturn, 1) := by decide +kernel
theorem d1_30 : decode method_2_code 30 = .ok (.getstatic 19, 3) := by decide +kernel
theorem d1_33 : decode method_2_code 33 = .ok (.areturn, 1) := by decide +kernel
theorem pn_ShotReachesPinLaw : plainName "com/example/roundkeeper/roundkeeper/rulesets/sealedorders/ShotReachesPinLaw" = true := by first | (simp [plainName, overriddenIn]; done) | decide +kernel
theorem ef_rm1 (m : MethodId) (x0 : Int32) : entryFrame m #[(.int x0)] 2 = mkF m 0 #[.val (.int x0), .unset] [] := by first | (simp [entryFrame, mkF, argsToLocals, Value.category]; done) | rfl
def Q1 (Z : State) (p1 : Int32) (a_COMPLEX_RELOAD : Addr) (a_QUICK_RELOAD : Addr) (a_THROWN : Addr) (a_NONE : Addr) (h0 : Heap) (n0 : Nat) (v : Option Value) (h : Heap) (L : List Loc) : Prop := ∃ (r : Addr), v = some (.ref r) ∧ Fr n0 L ∧ h = h0
set_option maxRecDepth 65536 in
set_option maxHeartbeats 40000000 in
theorem rm1 (l : Launch) (Z : State) (a0 : Array Value) (hw : ∀ d ∈ tables_1, d.before a0 Z = true) (ws : List Jvm.Cond) (p1 : Int32) (a_COMPLEX_RELOAD : Addr) (a_QUICK_RELOAD : Addr) (a_THROWN : Addr) (a_NONE : Addr) (h0 : Heap) (n0 : Nat) (O0 : Old Z n0 h0) (FS : OwnSt Z a_COMPLEX_RELOAD a_QUICK_RELOAD a_THROWN a_NONE) :
    MetFree l (⟨"com/example/roundkeeper/roundkeeper/rulesets/sealedorders/ShotReachesPinLaw", "pick", "(I)Lcom/example/roundkeeper/roundkeeper/rulesets/sealedorders/Weapon$Loading;"⟩ : MethodName) (head1 (Jvm.Cond.code (⟨"com/example/roundkeeper/roundkeeper/rulesets/sealedorders/ShotReachesPinLaw", "pick", "(I)Lcom/example/roundkeeper/roundkeeper/rulesets/sealedorders/Weapon$Loading;"⟩ : MethodName) method_2_code 2 (some (.object "com/example/roundkeeper/roundkeeper/rulesets/sealedorders/Weapon$Loading")) :: ws) ({ frames := 0, cells := 0, slots := 0, locals := 0 } : Room)) (fun a U => a = #[(.int p1)] ∧ Z.Warmed39 U.vm ∧ U.heap = h0) (fun _ _ _ _ _ => True) (fun _ U o U' => ∃ v L, o = .returned v ∧ Q1 Z p1 a_COMPLEX_RELOAD a_QUICK_RELOAD a_THROWN a_NONE h0 n0 v U'.heap L ∧ FrameEnd U o U' L ({ frames := 0, cells := 0, slots := 0, locals := 0 } : Room).cells ({ frames := 0, cells := 0, slots := 0, locals := 0 } : Room).slots) := by
  refine MetFree.of_bodySF (plainFor_of_name pn_ShotReachesPinLaw) hisR ?_
  intro p e s m args below meth c s₁ Bd hml0 hP hK
  obtain ⟨rfl, hZ, hh⟩ := hP
  have hx := Bd.exec
  have hby := Bd.bytes
  have hlk : meth.locks = false := BodyLoose.notSynchronized Bd
  have hml : c.maxLocals = 2 := hml0
  have hown : s.vm.findClass "com/example/roundkeeper/roundkeeper/rulesets/sealedorders/ShotReachesPinLaw" = some m.cls := findClass_of_methodNamed Bd.named
  have hnm := (name_of_methodNamed Bd.named Bd.method).1
  have X0 : Stand p l e ({ frames := 0, cells := 0, slots := 0, locals := 0 } : Room) s m #[(.int p1)] below meth c s₁ [] 0 0 := Stand.of_body Bd
  have e0 : s₁.heap = h0 := by rw [← hh, Bd.state]; rfl
  have N0 := Fr.nil n0
  show Goes p e below s (Q1 Z p1 a_COMPLEX_RELOAD a_QUICK_RELOAD a_THROWN a_NONE h0 n0) ({ frames := 0, cells := 0, slots := 0, locals := 0 } : Room).cells ({ frames := 0, cells := 0, slots := 0, locals := 0 } : Room).slots (s₁.setTop (entryFrame m #[(.int p1)] 2))
  refine Goes.enter (g' := (mkF m 0 #[.val (.int p1), .unset] [])) (ef_rm1 m p1) ?_
  have FS0 := FS
  obtain ⟨S_COMPLEX_RELOAD, E_COMPLEX_RELOAD, S_QUICK_RELOAD, E_QUICK_RELOAD, S_THROWN, E_THROWN, S_NONE, E_NONE⟩ := FS0
  refine Goes.step (B := s₁.setTop (mkF m 1 #[.val (.int p1), .unset] [(.int p1)])) (fun _ k => XS.iloadN X0.here hx rfl (hb hby d1_0) rfl k) ?_
  refine Goes.step (B := s₁.setTop (mkF m 2 #[.val (.int p1), .unset] [(.int (3 : Int32)), (.int p1)])) (fun _ k => XS.iconst X0.here hx rfl (hb hby d1_1) k) ?_
  refine Goes.step (B := s₁.setTop (mkF m 3 #[.val (.int p1), .unset] [(.int (p1 &&& (3 : Int32)))])) (fun _ k => XS.iand X0.here hx rfl (hb hby d1_2) rfl k) ?_
  obtain ⟨iw, hiw⟩ : ∃ z, z = (p1 &&& (3 : Int32)) := ⟨_, rfl⟩
  rw [← hiw]
  refine Goes.step (B := s₁.setTop (mkF m 4 #[.val (.int p1), .val (.int iw)] [])) (fun _ k => XS.istoreN X0.here hx rfl (hb hby d1_3) rfl (l' := #[.val (.int p1), .val (.int iw)]) rfl k) ?_
  refine Goes.step (B := s₁.setTop (mkF m 5 #[.val (.int p1), .val (.int iw)] [(.int iw)])) (fun _ k => XS.iloadN X0.here hx rfl (hb hby d1_4) rfl k) ?_
  by_cases hc5_0 : iw = (0 : Int32)
  · refine Goes.step (B := s₁.setTop (mkF m 8 #[.val (.int p1), .val (.int iw)] [])) (fun _ k => XS.ifNo X0.here hx rfl (hb hby d1_5) rfl ((if0 _ _).trans (teq hc5_0).2) k) ?_
    have f2 := S_NONE.ext O0.2
    obtain ⟨T3, X3, e3, st3⟩ := getS2 X0 hx hZ hown (host := "") (Or.inl (hw _ (List.mem_of_getElem? (i := 37) rfl))) Via.refl e0 f2 (g := (mkF m 8 #[.val (.int p1), .val (.int iw)] [])) rfl (hb hby d1_8)
    refine Goes.step (B := T3.setTop (mkF m 11 #[.val (.int p1), .val (.int iw)] [(.ref a_NONE)])) st3 ?_
    exact Goes.retA X3 hx e3 Bd.returns rfl rfl hlk (hb hby d1_11) (by decide) (by decide) (⟨_, rfl, N0, rfl⟩)
  · refine Goes.step (B := s₁.setTop (mkF m 12 #[.val (.int p1), .val (.int iw)] [])) (fun _ k => XS.ifYes X0.here hx rfl (pc0 := 5) (pc' := 12) rfl (hb hby d1_5) rfl ((if0 _ _).trans (feq hc5_0).2) (by decide) (by decide) k) ?_
    refine Goes.step (B := s₁.setTop (mkF m 13 #[.val (.int p1), .val (.int iw)] [(.int iw)])) (fun _ k => XS.iloadN X0.here hx rfl (hb hby d1_12) rfl k) ?_
    refine Goes.step (B := s₁.setTop (mkF m 14 #[.val (.int p1), .val (.int iw)] [(.int (1 : Int32)), (.int iw)])) (fun _ k => XS.iconst X0.here hx rfl (hb hby d1_13) k) ?_
    by_cases hc14_3 : iw = (1 : Int32)
    · refine Goes.step (B := s₁.setTop (mkF m 17 #[.val (.int p1), .val (.int iw)] [])) (fun _ k => XS.icmpNo X0.here hx rfl (hb hby d1_14) rfl (teq hc14_3).2 k) ?_
      have f5 := S_THROWN.ext O0.2
      obtain ⟨T6, X6, e6, st6⟩ := getS2 X0 hx hZ hown (host := "") (Or.inl (hw _ (List.mem_of_getElem? (i := 35) rfl))) Via.refl e0 f5 (g := (mkF m 17 #[.val (.int p1), .val (.int iw)] [])) rfl (hb hby d1_17)
      refine Goes.step (B := T6.setTop (mkF m 20 #[.val (.int p1), .val (.int iw)] [(.ref a_THROWN)])) st6 ?_
      exact Goes.retA X6 hx e6 Bd.returns rfl rfl hlk (hb hby d1_20) (by decide) (by decide) (⟨_, rfl, N0, rfl⟩)
    · refine Goes.step (B := s₁.setTop (mkF m 21 #[.val (.int p1), .val (.int iw)] [])) (fun _ k => XS.icmpYes X0.here hx rfl (pc0 := 14) (pc' := 21) rfl (hb hby d1_14) rfl (feq hc14_3).2 (by decide) (by decide) k) ?_
      refine Goes.step (B := s₁.setTop (mkF m 22 #[.val (.int p1), .val (.int iw)] [(.int iw)])) (fun _ k => XS.iloadN X0.here hx rfl (hb hby d1_21) rfl k) ?_
      refine Goes.step (B := s₁.setTop (mkF m 23 #[.val (.int p1), .val (.int iw)] [(.int (2 : Int32)), (.int iw)])) (fun _ k => XS.iconst X0.here hx rfl (hb hby d1_22) k) ?_
      by_cases hc23_6 : iw = (2 : Int32)
      · refine Goes.step (B := s₁.setTop (mkF m 26 #[.val (.int p1), .val (.int iw)] [])) (fun _ k => XS.icmpNo X0.here hx rfl (hb hby d1_23) rfl (teq hc23_6).2 k) ?_
        have f8 := S_QUICK_RELOAD.ext O0.2
        obtain ⟨T9, X9, e9, st9⟩ := getS2 X0 hx hZ hown (host := "") (Or.inl (hw _ (List.mem_of_getElem? (i := 33) rfl))) Via.refl e0 f8 (g := (mkF m 26 #[.val (.int p1), .val (.int iw)] [])) rfl (hb hby d1_26)
        refine Goes.step (B := T9.setTop (mkF m 29 #[.val (.int p1), .val (.int iw)] [(.ref a_QUICK_RELOAD)])) st9 ?_
        exact Goes.retA X9 hx e9 Bd.returns rfl rfl hlk (hb hby d1_29) (by decide) (by decide) (⟨_, rfl, N0, rfl⟩)
      · refine Goes.step (B := s₁.setTop (mkF m 30 #[.val (.int p1), .val (.int iw)] [])) (fun _ k => XS.icmpYes X0.here hx rfl (pc0 := 23) (pc' := 30) rfl (hb hby d1_23) rfl (feq hc23_6).2 (by decide) (by decide) k) ?_
        have f10 := S_COMPLEX_RELOAD.ext O0.2
        obtain ⟨T11, X11, e11, st11⟩ := getS2 X0 hx hZ hown (host := "") (Or.inl (hw _ (List.mem_of_getElem? (i := 4) rfl))) Via.refl e0 f10 (g := (mkF m 30 #[.val (.int p1), .val (.int iw)] [])) rfl (hb hby d1_30)
        refine Goes.step (B := T11.setTop (mkF m 33 #[.val (.int p1), .val (.int iw)] [(.ref a_COMPLEX_RELOAD)])) st11 ?_
        exact Goes.retA X11 hx e11 Bd.returns rfl rfl hlk (hb hby d1_33) (by decide) (by decide) (⟨_, rfl, N0, rfl⟩)
theorem d3_0 : decode jdk_30_method_1_code 0 = .ok (.aload_n 0, 1) := by decide +kernel
theorem d3_1 : decode jdk_30_method_1_code 1 = .ok (.invokespecial 1, 3) := by decide +kernel
theorem d3_4 : decode jdk_30_method_1_code 4 = .ok (.return_, 1) := by decide +kernel
theorem pn_Record : plainName "java/lang/Record" = true := by first | (simp [plainName, overriddenIn]; done) | decide +kernel
theorem ef_rm3 (m : MethodId) (x0 : Addr) : entryFrame m #[(.ref x0)] 1 = mkF m 0 #[.val (.ref x0)] [] := by first | (simp [entryFrame, mkF, argsToLocals, Value.category]; done) | rfl
def Q3 (Z : State) (a1 : Addr) (h0 : Heap) (n0 : Nat) (v : Option Value) (h : Heap) (L : List Loc) : Prop := v = none ∧ Fr n0 L ∧ h = h0
set_option maxRecDepth 65536 in
set_option maxHeartbeats 40000000 in
theorem rm3 (l : Launch) (Z : State) (a0 : Array Value) (hw : ∀ d ∈ tables_1, d.before a0 Z = true) (ws : List Jvm.Cond) (a1 : Addr) (h0 : Heap) (n0 : Nat) (O0 : Old Z n0 h0) :
    MetFree l (⟨"java/lang/Record", "<init>", "()V"⟩ : MethodName) (head1 (Jvm.Cond.code (⟨"java/lang/Record", "<init>", "()V"⟩ : MethodName) jdk_30_method_1_code 1 none :: ws) ({ frames := 1, cells := 0, slots := 0, locals := 12 } : Room)) (fun a U => a = #[(.ref a1)] ∧ Z.Warmed39 U.vm ∧ U.heap = h0) (fun _ _ _ _ _ => True) (fun _ U o U' => ∃ v L, o = .returned v ∧ Q3 Z a1 h0 n0 v U'.heap L ∧ FrameEnd U o U' L ({ frames := 1, cells := 0, slots := 0, locals := 12 } : Room).cells ({ frames := 1, cells := 0, slots := 0, locals := 12 } : Room).slots) := by
  refine MetFree.of_bodySF (plainFor_of_name pn_Record) hisR ?_
  intro p e s m args below meth c s₁ Bd hml0 hP hK
  obtain ⟨rfl, hZ, hh⟩ := hP
  have hx := Bd.exec
  have hby := Bd.bytes
  have hlk : meth.locks = false := BodyLoose.notSynchronized Bd
  have hml : c.maxLocals = 1 := hml0
  have hown : s.vm.findClass "java/lang/Record" = some m.cls := findClass_of_methodNamed Bd.named
  have hnm := (name_of_methodNamed Bd.named Bd.method).1
  have X0 : Stand p l e ({ frames := 1, cells := 0, slots := 0, locals := 12 } : Room) s m #[(.ref a1)] below meth c s₁ [] 0 0 := Stand.of_body Bd
  have e0 : s₁.heap = h0 := by rw [← hh, Bd.state]; rfl
  have N0 := Fr.nil n0
  show Goes p e below s (Q3 Z a1 h0 n0) ({ frames := 1, cells := 0, slots := 0, locals := 12 } : Room).cells ({ frames := 1, cells := 0, slots := 0, locals := 12 } : Room).slots (s₁.setTop (entryFrame m #[(.ref a1)] 1))
  refine Goes.enter (g' := (mkF m 0 #[.val (.ref a1)] [])) (ef_rm3 m a1) ?_
  refine Goes.step (B := s₁.setTop (mkF m 1 #[.val (.ref a1)] [(.ref a1)])) (fun _ k => XS.aloadN X0.here hx rfl (hb hby d3_0) rfl rfl k) ?_
  obtain ⟨T1, X1, e1, st1⟩ := initO X0 hx hZ hown (hw _ (List.mem_of_getElem? (i := 18) rfl)) (hw _ (List.mem_of_getElem? (i := 19) rfl)) (hw _ (List.mem_of_getElem? (i := 20) rfl)) e0 (g := (mkF m 1 #[.val (.ref a1)] [(.ref a1)])) rfl (by rw [hml]; rfl) rfl (hb hby d3_1) (by decide) (W := 0) (by show 2 * 0 + _ ≤ _; exact Nat.le_of_eq rfl) (by decide)
  refine Goes.step (B := T1.setTop (mkF m 4 #[.val (.ref a1)] [])) st1 ?_
  exact Goes.retV X1 hx e1 Bd.returns hlk (hb hby d3_4) (by decide) (by decide) (⟨rfl, N0, rfl⟩)
theorem d2_0 : decode prog_39_method_1_code 0 = .ok (.aload_n 0, 1) := by decide +kernel
theorem d2_1 : decode prog_39_method_1_code 1 = .ok (.invokespecial 1, 3) := by decide +kernel
theorem pd_0 : parseMethodDescriptor "()V" = some ⟨[], none⟩ := by decide +kernel
theorem d2_4 : decode prog_39_method_1_code 4 = .ok (.aload_n 0, 1) := by decide +kernel
theorem d2_5 : decode prog_39_method_1_code 5 = .ok (.iload_n 1, 1) := by decide +kernel
theorem d2_6 : decode prog_39_method_1_code 6 = .ok (.putfield 7, 3) := by decide +kernel
theorem d2_9 : decode prog_39_method_1_code 9 = .ok (.aload_n 0, 1) := by decide +kernel
theorem d2_10 : decode prog_39_method_1_code 10 = .ok (.aload_n 2, 1) := by decide +kernel
theorem d2_11 : decode prog_39_method_1_code 11 = .ok (.putfield 13, 3) := by decide +kernel
theorem d2_14 : decode prog_39_method_1_code 14 = .ok (.aload_n 0, 1) := by decide +kernel
theorem d2_15 : decode prog_39_method_1_code 15 = .ok (.iload_n 3, 1) := by decide +kernel
theorem d2_16 : decode prog_39_method_1_code 16 = .ok (.putfield 17, 3) := by decide +kernel
theorem d2_19 : decode prog_39_method_1_code 19 = .ok (.return_, 1) := by decide +kernel
theorem pn_Weapon_Shot : plainName "com/example/roundkeeper/roundkeeper/rulesets/sealedorders/Weapon$Shot" = true := by first | (simp [plainName, overriddenIn]; done) | decide +kernel
theorem ef_rm2 (m : MethodId) (x0 : Addr) (x1 : Int32) (x2 : Addr) (x3 : Int32) : entryFrame m #[(.ref x0), (.int x1), (.ref x2), (.int x3)] 4 = mkF m 0 #[.val (.ref x0), .val (.int x1), .val (.ref x2), .val (.int x3)] [] := by first | (simp [entryFrame, mkF, argsToLocals, Value.category]; done) | rfl
def Q2 (Z : State) (a0r : Addr) (p1 : Int32) (p2 : Addr) (p3 : Int32) (h0 : Heap) (n0 : Nat) (v : Option Value) (h : Heap) (L : List Loc) : Prop := v = none ∧ Fr n0 L ∧ Keep h0 h [a0r] ∧ Exa Z h a0r "com/example/roundkeeper/roundkeeper/rulesets/sealedorders/Weapon$Shot" ∧ Fld Z h a0r "com/example/roundkeeper/roundkeeper/rulesets/sealedorders/Weapon$Shot" "range" "I" (.int p1) ∧ Fld Z h a0r "com/example/roundkeeper/roundkeeper/rulesets/sealedorders/Weapon$Shot" "loading" "Lcom/example/roundkeeper/roundkeeper/rulesets/sealedorders/Weapon$Loading;" (.ref p2) ∧ Fld Z h a0r "com/example/roundkeeper/roundkeeper/rulesets/sealedorders/Weapon$Shot" "wounding" "Z" (.int (nar .boolean p3))
set_option maxRecDepth 65536 in
set_option maxHeartbeats 40000000 in
theorem rm2 (l : Launch) (Z : State) (a0 : Array Value) (hw : ∀ d ∈ tables_1, d.before a0 Z = true) (ws : List Jvm.Cond) (a0r : Addr) (p1 : Int32) (p2 : Addr) (p3 : Int32) (h0 : Heap) (n0 : Nat) (O0 : Old Z n0 h0) (Er : Exa Z h0 a0r "com/example/roundkeeper/roundkeeper/rulesets/sealedorders/Weapon$Shot") (gr : n0 ≤ a0r) (Fr_range : Fld Z h0 a0r "com/example/roundkeeper/roundkeeper/rulesets/sealedorders/Weapon$Shot" "range" "I" (.int (0 : Int32))) (Fr_loading : Fld Z h0 a0r "com/example/roundkeeper/roundkeeper/rulesets/sealedorders/Weapon$Shot" "loading" "Lcom/example/roundkeeper/roundkeeper/rulesets/sealedorders/Weapon$Loading;" .null) (Fr_wounding : Fld Z h0 a0r "com/example/roundkeeper/roundkeeper/rulesets/sealedorders/Weapon$Shot" "wounding" "Z" (.int (0 : Int32))) :
    MetFree l (⟨"com/example/roundkeeper/roundkeeper/rulesets/sealedorders/Weapon$Shot", "<init>", "(ILcom/example/roundkeeper/roundkeeper/rulesets/sealedorders/Weapon$Loading;Z)V"⟩ : MethodName) (head1 (Jvm.Cond.code (⟨"com/example/roundkeeper/roundkeeper/rulesets/sealedorders/Weapon$Shot", "<init>", "(ILcom/example/roundkeeper/roundkeeper/rulesets/sealedorders/Weapon$Loading;Z)V"⟩ : MethodName) prog_39_method_1_code 4 none :: ws) ({ frames := 2, cells := 0, slots := 0, locals := 24 } : Room)) (fun a U => a = #[(.ref a0r), (.int p1), (.ref p2), (.int p3)] ∧ Z.Warmed39 U.vm ∧ U.heap = h0) (fun _ _ _ _ _ => True) (fun _ U o U' => ∃ v L, o = .returned v ∧ Q2 Z a0r p1 p2 p3 h0 n0 v U'.heap L ∧ FrameEnd U o U' L ({ frames := 2, cells := 0, slots := 0, locals := 24 } : Room).cells ({ frames := 2, cells := 0, slots := 0, locals := 24 } : Room).slots) := by
  refine MetFree.of_bodySF (plainFor_of_name pn_Weapon_Shot) hisR ?_
  intro p e s m args below meth c s₁ Bd hml0 hP hK
  obtain ⟨rfl, hZ, hh⟩ := hP
  have hx := Bd.exec
  have hby := Bd.bytes
  have hlk : meth.locks = false := BodyLoose.notSynchronized Bd
  have hml : c.maxLocals = 4 := hml0
  have hown : s.vm.findClass "com/example/roundkeeper/roundkeeper/rulesets/sealedorders/Weapon$Shot" = some m.cls := findClass_of_methodNamed Bd.named
  have hnm := (name_of_methodNamed Bd.named Bd.method).1
  have X0 : Stand p l e ({ frames := 2, cells := 0, slots := 0, locals := 24 } : Room) s m #[(.ref a0r), (.int p1), (.ref p2), (.int p3)] below meth c s₁ [] 0 0 := Stand.of_body Bd
  have e0 : s₁.heap = h0 := by rw [← hh, Bd.state]; rfl
  have N0 := Fr.nil n0
  show Goes p e below s (Q2 Z a0r p1 p2 p3 h0 n0) ({ frames := 2, cells := 0, slots := 0, locals := 24 } : Room).cells ({ frames := 2, cells := 0, slots := 0, locals := 24 } : Room).slots (s₁.setTop (entryFrame m #[(.ref a0r), (.int p1), (.ref p2), (.int p3)] 4))
  refine Goes.enter (g' := (mkF m 0 #[.val (.ref a0r), .val (.int p1), .val (.ref p2), .val (.int p3)] [])) (ef_rm2 m a0r p1 p2 p3) ?_
  refine Goes.step (B := s₁.setTop (mkF m 1 #[.val (.ref a0r), .val (.int p1), .val (.ref p2), .val (.int p3)] [(.ref a0r)])) (fun _ k => XS.aloadN X0.here hx rfl (hb hby d2_0) rfl rfl k) ?_
  obtain ⟨_, _, ⟨T1, L1, k1, n1⟩, -, X1, ⟨Lc1, hQ1, l1, y1, z1⟩, st1⟩ := X0.specialBack hx (y := (⟨"java/lang/Record", "<init>", "()V"⟩ : MethodName)) rfl hown (mvT hZ (hw _ (List.mem_of_getElem? (i := 13) rfl))) (mvT hZ (hw _ (List.mem_of_getElem? (i := 14) rfl))) (mvT hZ (hw _ (List.mem_of_getElem? (i := 17) rfl))) (by decide) (backOf (W := 0) (rm3 l Z a0 hw [] a0r h0 n0 O0 ) hZ (hw _ (List.mem_of_getElem? (i := 17) rfl)) (hw _ (List.mem_of_getElem? (i := 16) rfl)) (by decide) (by decide)) (g := (mkF m 1 #[.val (.ref a0r), .val (.int p1), .val (.ref p2), .val (.int p3)] [(.ref a0r)])) rfl (by rw [hml]; rfl) (Steps.refl _) (a := a0r) (argsL := []) (rest := []) (lenOf pd_0 rfl) rfl (by show 2 * 0 + _ ≤ _; exact Nat.le_of_eq rfl) (hb hby d2_1) (fun _ _ => ⟨rfl, e0, (by decide : 0 + 0 ≤ _), (by decide : 0 + 0 ≤ _)⟩)
  dsimp only [Pt.U, Pt.locs, Pt.cells, Pt.slots] at X1 l1 y1 z1 st1 hQ1
  subst l1 y1 z1
  obtain ⟨rfl, Nq1, eh1⟩ := hQ1
  have N1 := Fr.app N0 Nq1
  refine Goes.via (B := T1.setTop (mkF m 4 #[.val (.ref a0r), .val (.int p1), .val (.ref p2), .val (.int p3)] [])) st1 ?_
  refine Goes.step (B := T1.setTop (mkF m 5 #[.val (.ref a0r), .val (.int p1), .val (.ref p2), .val (.int p3)] [(.ref a0r)])) (fun _ k => XS.aloadN X1.here hx rfl (hb hby d2_4) rfl rfl k) ?_
  refine Goes.step (B := T1.setTop (mkF m 6 #[.val (.ref a0r), .val (.int p1), .val (.ref p2), .val (.int p3)] [(.int p1), (.ref a0r)])) (fun _ k => XS.iloadN X1.here hx rfl (hb hby d2_5) rfl k) ?_
  obtain ⟨T2, h2, X2, e2, W2, st2⟩ := putF X1 hx hZ hown (host := "") (Or.inl (hw _ (List.mem_of_getElem? (i := 21) rfl))) Via.refl eh1 Fr_range Er (Or.inr ⟨(hw _ (List.mem_of_getElem? (i := 22) rfl)), rfl, hnm⟩) (hw _ (List.mem_of_getElem? (i := 8) rfl)) (ty := .int) (by decide) rfl rfl (g := (mkF m 6 #[.val (.ref a0r), .val (.int p1), .val (.ref p2), .val (.int p3)] [(.int p1), (.ref a0r)])) rfl rfl (hb hby d2_6)
  have Fw2 := Fr_range.same W2
  have N2 := Fr.snoc X2 N1 gr
  have O_2 := O0.wr W2 gr
  have K_2 := (Keep.refl h0 [a0r]).wr W2 (Or.inl (List.mem_of_getElem? (i := 0) rfl))
  refine Goes.step (B := T2.setTop (mkF m 9 #[.val (.ref a0r), .val (.int p1), .val (.ref p2), .val (.int p3)] [])) st2 ?_
  refine Goes.step (B := T2.setTop (mkF m 10 #[.val (.ref a0r), .val (.int p1), .val (.ref p2), .val (.int p3)] [(.ref a0r)])) (fun _ k => XS.aloadN X2.here hx rfl (hb hby d2_9) rfl rfl k) ?_
  refine Goes.step (B := T2.setTop (mkF m 11 #[.val (.ref a0r), .val (.int p1), .val (.ref p2), .val (.int p3)] [(.ref p2), (.ref a0r)])) (fun _ k => XS.aloadN X2.here hx rfl (hb hby d2_10) rfl rfl k) ?_
  have f3 := (Er.wr W2)
  have f4 := (Fr_loading.other W2 (Or.inr (slot_ne (Or.inr (hw _ (List.mem_of_getElem? (i := 24) rfl))) (Or.inr (hw _ (List.mem_of_getElem? (i := 22) rfl))) (by decide) (t := (.object "com/example/roundkeeper/roundkeeper/rulesets/sealedorders/Weapon$Loading")) (t' := .int) (by decide) (by decide))))
  obtain ⟨T5, h5, X5, e5, W5, st5⟩ := putF X2 hx hZ hown (host := "") (Or.inl (hw _ (List.mem_of_getElem? (i := 23) rfl))) Via.refl e2 f4 f3 (Or.inr ⟨(hw _ (List.mem_of_getElem? (i := 24) rfl)), rfl, hnm⟩) (hw _ (List.mem_of_getElem? (i := 8) rfl)) (ty := (.object "com/example/roundkeeper/roundkeeper/rulesets/sealedorders/Weapon$Loading")) (by decide) rfl rfl (g := (mkF m 11 #[.val (.ref a0r), .val (.int p1), .val (.ref p2), .val (.int p3)] [(.ref p2), (.ref a0r)])) rfl rfl (hb hby d2_11)
  have Fw5 := f4.same W5
  have N5 := Fr.snoc X5 N2 gr
  have O_5 := O_2.wr W5 gr
  have K_5 := K_2.wr W5 (Or.inl (List.mem_of_getElem? (i := 0) rfl))
  refine Goes.step (B := T5.setTop (mkF m 14 #[.val (.ref a0r), .val (.int p1), .val (.ref p2), .val (.int p3)] [])) st5 ?_
  refine Goes.step (B := T5.setTop (mkF m 15 #[.val (.ref a0r), .val (.int p1), .val (.ref p2), .val (.int p3)] [(.ref a0r)])) (fun _ k => XS.aloadN X5.here hx rfl (hb hby d2_14) rfl rfl k) ?_
  refine Goes.step (B := T5.setTop (mkF m 16 #[.val (.ref a0r), .val (.int p1), .val (.ref p2), .val (.int p3)] [(.int p3), (.ref a0r)])) (fun _ k => XS.iloadN X5.here hx rfl (hb hby d2_15) rfl k) ?_
  have f6 := (f3.wr W5)
  have f7 := ((Fr_wounding.other W2 (Or.inr (slot_ne (Or.inr (hw _ (List.mem_of_getElem? (i := 26) rfl))) (Or.inr (hw _ (List.mem_of_getElem? (i := 22) rfl))) (by decide) (t := .boolean) (t' := .int) (by decide) (by decide)))).other W5 (Or.inr (slot_ne (Or.inr (hw _ (List.mem_of_getElem? (i := 26) rfl))) (Or.inr (hw _ (List.mem_of_getElem? (i := 24) rfl))) (by decide) (t := .boolean) (t' := (.object "com/example/roundkeeper/roundkeeper/rulesets/sealedorders/Weapon$Loading")) (by decide) (by decide))))
  obtain ⟨T8, h8, X8, e8, W8, st8⟩ := putFN X5 hx hZ hown (hw _ (List.mem_of_getElem? (i := 25) rfl)) Via.refl e5 f7 f6 (Or.inr ⟨(hw _ (List.mem_of_getElem? (i := 26) rfl)), rfl, hnm⟩) (hw _ (List.mem_of_getElem? (i := 8) rfl)) (ty := .boolean) (v' := (.int (nar .boolean p3))) (by decide) rfl (fits_nar_bool _) (g := (mkF m 16 #[.val (.ref a0r), .val (.int p1), .val (.ref p2), .val (.int p3)] [(.int p3), (.ref a0r)])) rfl rfl (hb hby d2_16)
  have Fw8 := f7.same W8
  have N8 := Fr.snoc X8 N5 gr
  have O_8 := O_5.wr W8 gr
  have K_8 := K_5.wr W8 (Or.inl (List.mem_of_getElem? (i := 0) rfl))
  refine Goes.step (B := T8.setTop (mkF m 19 #[.val (.ref a0r), .val (.int p1), .val (.ref p2), .val (.int p3)] [])) st8 ?_
  have f9 := (f6.wr W8)
  have f10 := ((Fw2.other W5 (Or.inr (slot_ne (Or.inr (hw _ (List.mem_of_getElem? (i := 22) rfl))) (Or.inr (hw _ (List.mem_of_getElem? (i := 24) rfl))) (by decide) (t := .int) (t' := (.object "com/example/roundkeeper/roundkeeper/rulesets/sealedorders/Weapon$Loading")) (by decide) (by decide)))).other W8 (Or.inr (slot_ne (Or.inr (hw _ (List.mem_of_getElem? (i := 22) rfl))) (Or.inr (hw _ (List.mem_of_getElem? (i := 26) rfl))) (by decide) (t := .int) (t' := .boolean) (by decide) (by decide))))
  have f11 := (Fw5.other W8 (Or.inr (slot_ne (Or.inr (hw _ (List.mem_of_getElem? (i := 24) rfl))) (Or.inr (hw _ (List.mem_of_getElem? (i := 26) rfl))) (by decide) (t := (.object "com/example/roundkeeper/roundkeeper/rulesets/sealedorders/Weapon$Loading")) (t' := .boolean) (by decide) (by decide))))
  exact Goes.retV X8 hx e8 Bd.returns hlk (hb hby d2_19) (by decide) (by decide) (⟨rfl, N8, K_8, f9, f10, f11, Fw8⟩)
theorem d5_0 : decode prog_39_method_2_code 0 = .ok (.lload_n 1, 1) := by decide +kernel
theorem d5_1 : decode prog_39_method_2_code 1 = .ok (.ldc2_w 21, 3) := by decide +kernel
theorem d5_4 : decode prog_39_method_2_code 4 = .ok (.aload_n 0, 1) := by decide +kernel
theorem d5_5 : decode prog_39_method_2_code 5 = .ok (.getfield 7, 3) := by decide +kernel
theorem d5_8 : decode prog_39_method_2_code 8 = .ok (.i2l, 1) := by decide +kernel
theorem d5_9 : decode prog_39_method_2_code 9 = .ok (.lmul, 1) := by decide +kernel
theorem d5_10 : decode prog_39_method_2_code 10 = .ok (.lcmp, 1) := by decide +kernel
theorem d5_11 : decode prog_39_method_2_code 11 = .ok (.ifCond .gt 7, 3) := by decide +kernel
theorem d5_18 : decode prog_39_method_2_code 18 = .ok (.iconst 0, 1) := by decide +kernel
theorem d5_19 : decode prog_39_method_2_code 19 = .ok (.ireturn, 1) := by decide +kernel
theorem ef_rmr0 (m : MethodId) (x0 : Addr) (x1 : Int64) : entryFrame m #[(.ref x0), (.long x1)] 3 = mkF m 0 #[.val (.ref x0), .val (.long x1), .second] [] := by first | (simp [entryFrame, mkF, argsToLocals, Value.category]; done) | rfl
def Qr0 (Z : State) (a1 : Addr) (f1 : Int64) (rg : Int32) (h0 : Heap) (n0 : Nat) (v : Option Value) (h : Heap) (L : List Loc) : Prop := v = some (.int (0 : Int32)) ∧ Fr n0 L ∧ h = h0
set_option maxRecDepth 65536 in
set_option maxHeartbeats 40000000 in
theorem rmr0 (l : Launch) (Z : State) (a0 : Array Value) (hw : ∀ d ∈ tables_1, d.before a0 Z = true) (ws : List Jvm.Cond) (a1 : Addr) (f1 : Int64) (rg : Int32) (h0 : Heap) (n0 : Nat) (O0 : Old Z n0 h0) (hf : ((4 : Int64) * (rg.toInt64)) < f1) (Fg : Fld Z h0 a1 "com/example/roundkeeper/roundkeeper/rulesets/sealedorders/Weapon$Shot" "range" "I" (.int rg)) :
    MetFree l (⟨"com/example/roundkeeper/roundkeeper/rulesets/sealedorders/Weapon$Shot", "reaches", "(J)Z"⟩ : MethodName) (head1 (Jvm.Cond.code (⟨"com/example/roundkeeper/roundkeeper/rulesets/sealedorders/Weapon$Shot", "reaches", "(J)Z"⟩ : MethodName) prog_39_method_2_code 3 (some .boolean) :: ws) ({ frames := 0, cells := 0, slots := 0, locals := 0 } : Room)) (fun a U => a = #[(.ref a1), (.long f1)] ∧ Z.Warmed39 U.vm ∧ U.heap = h0) (fun _ _ _ _ _ => True) (fun _ U o U' => ∃ v L, o = .returned v ∧ Qr0 Z a1 f1 rg h0 n0 v U'.heap L ∧ FrameEnd U o U' L ({ frames := 0, cells := 0, slots := 0, locals := 0 } : Room).cells ({ frames := 0, cells := 0, slots := 0, locals := 0 } : Room).slots) := by
  refine MetFree.of_bodySF (plainFor_of_name pn_Weapon_Shot) hisR ?_
  intro p e s m args below meth c s₁ Bd hml0 hP hK
  obtain ⟨rfl, hZ, hh⟩ := hP
  have hx := Bd.exec
  have hby := Bd.bytes
  have hlk : meth.locks = false := BodyLoose.notSynchronized Bd
  have hml : c.maxLocals = 3 := hml0
  have hown : s.vm.findClass "com/example/roundkeeper/roundkeeper/rulesets/sealedorders/Weapon$Shot" = some m.cls := findClass_of_methodNamed Bd.named
  have hnm := (name_of_methodNamed Bd.named Bd.method).1
  have X0 : Stand p l e ({ frames := 0, cells := 0, slots := 0, locals := 0 } : Room) s m #[(.ref a1), (.long f1)] below meth c s₁ [] 0 0 := Stand.of_body Bd
  have e0 : s₁.heap = h0 := by rw [← hh, Bd.state]; rfl
  have N0 := Fr.nil n0
  show Goes p e below s (Qr0 Z a1 f1 rg h0 n0) ({ frames := 0, cells := 0, slots := 0, locals := 0 } : Room).cells ({ frames := 0, cells := 0, slots := 0, locals := 0 } : Room).slots (s₁.setTop (entryFrame m #[(.ref a1), (.long f1)] 3))
  refine Goes.enter (g' := (mkF m 0 #[.val (.ref a1), .val (.long f1), .second] [])) (ef_rmr0 m a1 f1) ?_
  refine Goes.step (B := s₁.setTop (mkF m 1 #[.val (.ref a1), .val (.long f1), .second] [(.long f1)])) (fun _ k => XS.lloadN X0.here hx rfl (hb hby d5_0) rfl k) ?_
  refine Goes.step (B := s₁.setTop (mkF m 4 #[.val (.ref a1), .val (.long f1), .second] [(.long (4 : Int64)), (.long f1)])) (X0.ldc2Long hx hown (mvT hZ (hw _ (List.mem_of_getElem? (i := 32) rfl))) (g := (mkF m 1 #[.val (.ref a1), .val (.long f1), .second] [(.long f1)])) rfl (hb hby d5_1)) ?_
  refine Goes.step (B := s₁.setTop (mkF m 5 #[.val (.ref a1), .val (.long f1), .second] [(.ref a1), (.long (4 : Int64)), (.long f1)])) (fun _ k => XS.aloadN X0.here hx rfl (hb hby d5_4) rfl rfl k) ?_
  obtain ⟨T1, X1, e1, st1⟩ := getF X0 hx hZ hown (host := "") (Or.inl (hw _ (List.mem_of_getElem? (i := 21) rfl))) Via.refl e0 Fg (g := (mkF m 5 #[.val (.ref a1), .val (.long f1), .second] [(.ref a1), (.long (4 : Int64)), (.long f1)])) rfl rfl (hb hby d5_5)
  refine Goes.step (B := T1.setTop (mkF m 8 #[.val (.ref a1), .val (.long f1), .second] [(.int rg), (.long (4 : Int64)), (.long f1)])) st1 ?_
  refine Goes.step (B := T1.setTop (mkF m 9 #[.val (.ref a1), .val (.long f1), .second] [(.long (rg.toInt64)), (.long (4 : Int64)), (.long f1)])) (fun _ k => XS.i2l X1.here hx rfl (hb hby d5_8) rfl k) ?_
  refine Goes.step (B := T1.setTop (mkF m 10 #[.val (.ref a1), .val (.long f1), .second] [(.long ((4 : Int64) * (rg.toInt64))), (.long f1)])) (fun _ k => XS.lmul X1.here hx rfl (hb hby d5_9) rfl k) ?_
  refine Goes.step (B := T1.setTop (mkF m 11 #[.val (.ref a1), .val (.long f1), .second] [(.int (lcmpW f1 ((4 : Int64) * (rg.toInt64))))])) (fun _ k => XS.lcmp X1.here hx rfl (hb hby d5_10) rfl k) ?_
  refine Goes.step (B := T1.setTop (mkF m 18 #[.val (.ref a1), .val (.long f1), .second] [])) (fun _ k => XS.ifYes X1.here hx rfl (pc0 := 11) (pc' := 18) rfl (hb hby d5_11) rfl ((if0 _ _).trans (tlt ((lw_gt _ _).mpr hf)).2.2.1) (by decide) (by decide) k) ?_
  refine Goes.step (B := T1.setTop (mkF m 19 #[.val (.ref a1), .val (.long f1), .second] [(.int (0 : Int32))])) (fun _ k => XS.iconst X1.here hx rfl (hb hby d5_18) k) ?_
  exact Goes.retN X1 hx e1 (t := .boolean) Bd.returns (by simp) hlk (hb hby d5_19) (by decide) (by decide) (⟨rfl, N0, rfl⟩)
theorem d5_14 : decode prog_39_method_2_code 14 = .ok (.iconst 1, 1) := by decide +kernel
theorem d5_15 : decode prog_39_method_2_code 15 = .ok (.goto 4, 3) := by decide +kernel
theorem ef_rmr1 (m : MethodId) (x0 : Addr) (x1 : Int64) : entryFrame m #[(.ref x0), (.long x1)] 3 = mkF m 0 #[.val (.ref x0), .val (.long x1), .second] [] := by first | (simp [entryFrame, mkF, argsToLocals, Value.category]; done) | rfl
def Qr1 (Z : State) (a1 : Addr) (f1 : Int64) (rg : Int32) (h0 : Heap) (n0 : Nat) (v : Option Value) (h : Heap) (L : List Loc) : Prop := v = some (.int (1 : Int32)) ∧ Fr n0 L ∧ h = h0
set_option maxRecDepth 65536 in
set_option maxHeartbeats 40000000 in
theorem rmr1 (l : Launch) (Z : State) (a0 : Array Value) (hw : ∀ d ∈ tables_1, d.before a0 Z = true) (ws : List Jvm.Cond) (a1 : Addr) (f1 : Int64) (rg : Int32) (h0 : Heap) (n0 : Nat) (O0 : Old Z n0 h0) (hf : ¬ ((4 : Int64) * (rg.toInt64)) < f1) (Fg : Fld Z h0 a1 "com/example/roundkeeper/roundkeeper/rulesets/sealedorders/Weapon$Shot" "range" "I" (.int rg)) :
    MetFree l (⟨"com/example/roundkeeper/roundkeeper/rulesets/sealedorders/Weapon$Shot", "reaches", "(J)Z"⟩ : MethodName) (head1 (Jvm.Cond.code (⟨"com/example/roundkeeper/roundkeeper/rulesets/sealedorders/Weapon$Shot", "reaches", "(J)Z"⟩ : MethodName) prog_39_method_2_code 3 (some .boolean) :: ws) ({ frames := 0, cells := 0, slots := 0, locals := 0 } : Room)) (fun a U => a = #[(.ref a1), (.long f1)] ∧ Z.Warmed39 U.vm ∧ U.heap = h0) (fun _ _ _ _ _ => True) (fun _ U o U' => ∃ v L, o = .returned v ∧ Qr1 Z a1 f1 rg h0 n0 v U'.heap L ∧ FrameEnd U o U' L ({ frames := 0, cells := 0, slots := 0, locals := 0 } : Room).cells ({ frames := 0, cells := 0, slots := 0, locals := 0 } : Room).slots) := by
  refine MetFree.of_bodySF (plainFor_of_name pn_Weapon_Shot) hisR ?_
  intro p e s m args below meth c s₁ Bd hml0 hP hK
  obtain ⟨rfl, hZ, hh⟩ := hP
  have hx := Bd.exec
  have hby := Bd.bytes
  have hlk : meth.locks = false := BodyLoose.notSynchronized Bd
  have hml : c.maxLocals = 3 := hml0
  have hown : s.vm.findClass "com/example/roundkeeper/roundkeeper/rulesets/sealedorders/Weapon$Shot" = some m.cls := findClass_of_methodNamed Bd.named
  have hnm := (name_of_methodNamed Bd.named Bd.method).1
  have X0 : Stand p l e ({ frames := 0, cells := 0, slots := 0, locals := 0 } : Room) s m #[(.ref a1), (.long f1)] below meth c s₁ [] 0 0 := Stand.of_body Bd
  have e0 : s₁.heap = h0 := by rw [← hh, Bd.state]; rfl
  have N0 := Fr.nil n0
  show Goes p e below s (Qr1 Z a1 f1 rg h0 n0) ({ frames := 0, cells := 0, slots := 0, locals := 0 } : Room).cells ({ frames := 0, cells := 0, slots := 0, locals := 0 } : Room).slots (s₁.setTop (entryFrame m #[(.ref a1), (.long f1)] 3))
  refine Goes.enter (g' := (mkF m 0 #[.val (.ref a1), .val (.long f1), .second] [])) (ef_rmr1 m a1 f1) ?_
  refine Goes.step (B := s₁.setTop (mkF m 1 #[.val (.ref a1), .val (.long f1), .second] [(.long f1)])) (fun _ k => XS.lloadN X0.here hx rfl (hb hby d5_0) rfl k) ?_
  refine Goes.step (B := s₁.setTop (mkF m 4 #[.val (.ref a1), .val (.long f1), .second] [(.long (4 : Int64)), (.long f1)])) (X0.ldc2Long hx hown (mvT hZ (hw _ (List.mem_of_getElem? (i := 32) rfl))) (g := (mkF m 1 #[.val (.ref a1), .val (.long f1), .second] [(.long f1)])) rfl (hb hby d5_1)) ?_
  refine Goes.step (B := s₁.setTop (mkF m 5 #[.val (.ref a1), .val (.long f1), .second] [(.ref a1), (.long (4 : Int64)), (.long f1)])) (fun _ k => XS.aloadN X0.here hx rfl (hb hby d5_4) rfl rfl k) ?_
  obtain ⟨T1, X1, e1, st1⟩ := getF X0 hx hZ hown (host := "") (Or.inl (hw _ (List.mem_of_getElem? (i := 21) rfl))) Via.refl e0 Fg (g := (mkF m 5 #[.val (.ref a1), .val (.long f1), .second] [(.ref a1), (.long (4 : Int64)), (.long f1)])) rfl rfl (hb hby d5_5)
  refine Goes.step (B := T1.setTop (mkF m 8 #[.val (.ref a1), .val (.long f1), .second] [(.int rg), (.long (4 : Int64)), (.long f1)])) st1 ?_
  refine Goes.step (B := T1.setTop (mkF m 9 #[.val (.ref a1), .val (.long f1), .second] [(.long (rg.toInt64)), (.long (4 : Int64)), (.long f1)])) (fun _ k => XS.i2l X1.here hx rfl (hb hby d5_8) rfl k) ?_
  refine Goes.step (B := T1.setTop (mkF m 10 #[.val (.ref a1), .val (.long f1), .second] [(.long ((4 : Int64) * (rg.toInt64))), (.long f1)])) (fun _ k => XS.lmul X1.here hx rfl (hb hby d5_9) rfl k) ?_
  refine Goes.step (B := T1.setTop (mkF m 11 #[.val (.ref a1), .val (.long f1), .second] [(.int (lcmpW f1 ((4 : Int64) * (rg.toInt64))))])) (fun _ k => XS.lcmp X1.here hx rfl (hb hby d5_10) rfl k) ?_
  refine Goes.step (B := T1.setTop (mkF m 14 #[.val (.ref a1), .val (.long f1), .second] [])) (fun _ k => XS.ifNo X1.here hx rfl (hb hby d5_11) rfl ((if0 _ _).trans (flt (fun q => hf ((lw_gt _ _).mp q))).2.2.1) k) ?_
  refine Goes.step (B := T1.setTop (mkF m 15 #[.val (.ref a1), .val (.long f1), .second] [(.int (1 : Int32))])) (fun _ k => XS.iconst X1.here hx rfl (hb hby d5_14) k) ?_
  refine Goes.step (B := T1.setTop (mkF m 19 #[.val (.ref a1), .val (.long f1), .second] [(.int (1 : Int32))])) (fun _ k => XS.goto X1.here hx rfl (pc0 := 15) (pc' := 19) rfl (hb hby d5_15) (by decide) (by decide) k) ?_
  exact Goes.retN X1 hx e1 (t := .boolean) Bd.returns (by simp) hlk (hb hby d5_19) (by decide) (by decide) (⟨rfl, N0, rfl⟩)
theorem pd_1 : parseMethodDescriptor "(I)Lcom/example/roundkeeper/roundkeeper/rulesets/sealedorders/Weapon$Loading;" = some ⟨[.int], some (.object "com/example/roundkeeper/roundkeeper/rulesets/sealedorders/Weapon$Loading")⟩ := by decide +kernel
theorem pd_2 : parseMethodDescriptor "(ILcom/example/roundkeeper/roundkeeper/rulesets/sealedorders/Weapon$Loading;Z)V" = some ⟨[.int, (.object "com/example/roundkeeper/roundkeeper/rulesets/sealedorders/Weapon$Loading"), .boolean], none⟩ := by decide +kernel
theorem pd_3 : parseMethodDescriptor "(J)Z" = some ⟨[.long], some .boolean⟩ := by decide +kernel
theorem ef_rm0 (m : MethodId) (x0 : Int32) (x1 : Int64) (x2 : Int32) (x3 : Int32) (x4 : Int32) : entryFrame m #[(.int x0), (.long x1), (.int x2), (.int x3), (.int x4)] maxLocals = mkF m 0 #[.val (.int x0), .val (.long x1), .second, .val (.int x2), .val (.int x3), .val (.int x4), .unset, .unset, .unset, .unset, .unset, .unset, .unset, .unset, .unset, .unset] [] := by first | (simp [entryFrame, mkF, argsToLocals, Value.category, maxLocals]; done) | rfl
def Q0 (Z : State) (i0 : Int32) (i1 : Int64) (i2 : Int32) (i3 : Int32) (i4 : Int32) (a_COMPLEX_RELOAD : Addr) (a_QUICK_RELOAD : Addr) (a_THROWN : Addr) (a_NONE : Addr) (h0 : Heap) (n0 : Nat) (v : Option Value) (h : Heap) (L : List Loc) : Prop := v = some (.int 1) ∧ Fr n0 L
set_option maxRecDepth 65536 in
set_option maxHeartbeats 40000000 in
theorem rm0 (l : Launch) (Z : State) (a0 : Array Value) (hw : ∀ d ∈ tables_1, d.before a0 Z = true) (ws : List Jvm.Cond) (i0 : Int32) (i1 : Int64) (i2 : Int32) (i3 : Int32) (i4 : Int32) (a_COMPLEX_RELOAD : Addr) (a_QUICK_RELOAD : Addr) (a_THROWN : Addr) (a_NONE : Addr) (h0 : Heap) (n0 : Nat) (O0 : Old Z n0 h0) (FS : OwnSt Z a_COMPLEX_RELOAD a_QUICK_RELOAD a_THROWN a_NONE) :
    MetFree l x (head1 (Jvm.Cond.code x code maxLocals ret :: ws) room_1) (fun a U => a = #[(.int i0), (.long i1), (.int i2), (.int i3), (.int i4)] ∧ Z.Warmed39 U.vm ∧ U.heap = h0) (fun _ _ _ _ _ => True) (fun _ U o U' => ∃ v L, o = .returned v ∧ Q0 Z i0 i1 i2 i3 i4 a_COMPLEX_RELOAD a_QUICK_RELOAD a_THROWN a_NONE h0 n0 v U'.heap L ∧ FrameEnd U o U' L room_1.cells room_1.slots) := by
  refine MetFree.of_bodySF (plainFor_of_name pn_ShotReachesPinLaw) hisR ?_
  intro p e s m args below meth c s₁ Bd hml0 hP hK
  obtain ⟨rfl, hZ, hh⟩ := hP
  have hx := Bd.exec
  have hby := Bd.bytes
  have hlk : meth.locks = false := BodyLoose.notSynchronized Bd
  have hml : c.maxLocals = 16 := hml0
  have hown : s.vm.findClass "com/example/roundkeeper/roundkeeper/rulesets/sealedorders/ShotReachesPinLaw" = some m.cls := findClass_of_methodNamed Bd.named
  have hnm := (name_of_methodNamed Bd.named Bd.method).1
  have X0 : Stand p l e room_1 s m #[(.int i0), (.long i1), (.int i2), (.int i3), (.int i4)] below meth c s₁ [] 0 0 := Stand.of_body Bd
  have e0 : s₁.heap = h0 := by rw [← hh, Bd.state]; rfl
  have N0 := Fr.nil n0
  show Goes p e below s (Q0 Z i0 i1 i2 i3 i4 a_COMPLEX_RELOAD a_QUICK_RELOAD a_THROWN a_NONE h0 n0) room_1.cells room_1.slots (s₁.setTop (entryFrame m #[(.int i0), (.long i1), (.int i2), (.int i3), (.int i4)] maxLocals))
  refine Goes.enter (g' := (mkF m 0 #[.val (.int i0), .val (.long i1), .second, .val (.int i2), .val (.int i3), .val (.int i4), .unset, .unset, .unset, .unset, .unset, .unset, .unset, .unset, .unset, .unset] [])) (ef_rm0 m i0 i1 i2 i3 i4) ?_
  have FS0 := FS
  obtain ⟨S_COMPLEX_RELOAD, E_COMPLEX_RELOAD, S_QUICK_RELOAD, E_QUICK_RELOAD, S_THROWN, E_THROWN, S_NONE, E_NONE⟩ := FS0
  refine Goes.step (B := s₁.setTop (mkF m 2 #[.val (.int i0), .val (.long i1), .second, .val (.int i2), .val (.int i3), .val (.int i4), .unset, .unset, .unset, .unset, .unset, .unset, .unset, .unset, .unset, .unset] [(.int i4)])) (fun _ k => XS.iload X0.here hx rfl (hb hby at_0) rfl k) ?_
  obtain ⟨_, _, ⟨T1, L1, k1, n1⟩, -, X1, ⟨Lc1, hQ1, l1, y1, z1⟩, st1⟩ := Jvm.LawKit.callS X0 hx (y := (⟨"com/example/roundkeeper/roundkeeper/rulesets/sealedorders/ShotReachesPinLaw", "pick", "(I)Lcom/example/roundkeeper/roundkeeper/rulesets/sealedorders/Weapon$Loading;"⟩ : MethodName)) hown (mvT hZ (hw _ (List.mem_of_getElem? (i := 0) rfl))) (mvT hZ (hw _ (List.mem_of_getElem? (i := 1) rfl))) (mvT hZ (hw _ (List.mem_of_getElem? (i := 2) rfl))) (mvT hZ (hw _ (List.mem_of_getElem? (i := 3) rfl))) (by decide) (backOf (W := 0) (rm1 l Z a0 hw [] i4 a_COMPLEX_RELOAD a_QUICK_RELOAD a_THROWN a_NONE h0 n0 O0 FS) hZ (hw _ (List.mem_of_getElem? (i := 3) rfl)) (hw _ (List.mem_of_getElem? (i := 2) rfl)) (by decide) (by decide)) (g := (mkF m 2 #[.val (.int i0), .val (.long i1), .second, .val (.int i2), .val (.int i3), .val (.int i4), .unset, .unset, .unset, .unset, .unset, .unset, .unset, .unset, .unset, .unset] [(.int i4)])) rfl (by rw [hml]; rfl) (argsL := [(.int i4)]) (rest := []) (lenOf pd_1 rfl) rfl (by show 2 * 0 + _ ≤ _; exact Nat.le_of_eq rfl) (hb hby at_2) (fun _ _ => ⟨rfl, e0, (by decide : 0 + 0 ≤ _), (by decide : 0 + 0 ≤ _)⟩)
  dsimp only [Pt.U, Pt.locs, Pt.cells, Pt.slots] at X1 l1 y1 z1 st1 hQ1
  subst l1 y1 z1
  obtain ⟨r_1, rfl, Nq1, eh1⟩ := hQ1
  have N1 := Fr.app N0 Nq1
  refine Goes.step (B := T1.setTop (mkF m 5 #[.val (.int i0), .val (.long i1), .second, .val (.int i2), .val (.int i3), .val (.int i4), .unset, .unset, .unset, .unset, .unset, .unset, .unset, .unset, .unset, .unset] [(.ref r_1)])) st1 ?_
  refine Goes.step (B := T1.setTop (mkF m 7 #[.val (.int i0), .val (.long i1), .second, .val (.int i2), .val (.int i3), .val (.int i4), .val (.ref r_1), .unset, .unset, .unset, .unset, .unset, .unset, .unset, .unset, .unset] [])) (fun _ k => XS.astore X1.here hx rfl (hb hby at_5) rfl rfl (l' := #[.val (.int i0), .val (.long i1), .second, .val (.int i2), .val (.int i3), .val (.int i4), .val (.ref r_1), .unset, .unset, .unset, .unset, .unset, .unset, .unset, .unset, .unset]) rfl k) ?_
  refine Goes.step (B := T1.setTop (mkF m 8 #[.val (.int i0), .val (.long i1), .second, .val (.int i2), .val (.int i3), .val (.int i4), .val (.ref r_1), .unset, .unset, .unset, .unset, .unset, .unset, .unset, .unset, .unset] [(.int i2)])) (fun _ k => XS.iloadN X1.here hx rfl (hb hby at_7) rfl k) ?_
  refine Goes.step (B := T1.setTop (mkF m 9 #[.val (.int i0), .val (.long i1), .second, .val (.int i2), .val (.int i3), .val (.int i4), .val (.ref r_1), .unset, .unset, .unset, .unset, .unset, .unset, .unset, .unset, .unset] [(.int (2 : Int32)), (.int i2)])) (fun _ k => XS.iconst X1.here hx rfl (hb hby at_8) k) ?_
  refine Goes.step (B := T1.setTop (mkF m 10 #[.val (.int i0), .val (.long i1), .second, .val (.int i2), .val (.int i3), .val (.int i4), .val (.ref r_1), .unset, .unset, .unset, .unset, .unset, .unset, .unset, .unset, .unset] [(.int (i2 &&& (2 : Int32)))])) (fun _ k => XS.iand X1.here hx rfl (hb hby at_9) rfl k) ?_
  by_cases hc10_1 : (i2 &&& (2 : Int32)) = (0 : Int32)
  · refine Goes.step (B := T1.setTop (mkF m 17 #[.val (.int i0), .val (.long i1), .second, .val (.int i2), .val (.int i3), .val (.int i4), .val (.ref r_1), .unset, .unset, .unset, .unset, .unset, .unset, .unset, .unset, .unset] [])) (fun _ k => XS.ifYes X1.here hx rfl (pc0 := 10) (pc' := 17) rfl (hb hby at_10) rfl ((if0 _ _).trans (teq hc10_1).1) (by decide) (by decide) k) ?_
    refine Goes.step (B := T1.setTop (mkF m 18 #[.val (.int i0), .val (.long i1), .second, .val (.int i2), .val (.int i3), .val (.int i4), .val (.ref r_1), .unset, .unset, .unset, .unset, .unset, .unset, .unset, .unset, .unset] [(.int (0 : Int32))])) (fun _ k => XS.iconst X1.here hx rfl (hb hby at_17) k) ?_
    refine Goes.step (B := T1.setTop (mkF m 20 #[.val (.int i0), .val (.long i1), .second, .val (.int i2), .val (.int i3), .val (.int i4), .val (.ref r_1), .val (.int (0 : Int32)), .unset, .unset, .unset, .unset, .unset, .unset, .unset, .unset] [])) (fun _ k => XS.istore X1.here hx rfl (hb hby at_18) rfl (l' := #[.val (.int i0), .val (.long i1), .second, .val (.int i2), .val (.int i3), .val (.int i4), .val (.ref r_1), .val (.int (0 : Int32)), .unset, .unset, .unset, .unset, .unset, .unset, .unset, .unset]) rfl k) ?_
    obtain ⟨T3, h3, X3, e3, E3, A3, D3, -, st3⟩ := newO X1 hx hZ hown (hw _ (List.mem_of_getElem? (i := 7) rfl)) (hw _ (List.mem_of_getElem? (i := 8) rfl)) (hw _ (List.mem_of_getElem? (i := 9) rfl)) eh1 (g := (mkF m 20 #[.val (.int i0), .val (.long i1), .second, .val (.int i2), .val (.int i3), .val (.int i4), .val (.ref r_1), .val (.int (0 : Int32)), .unset, .unset, .unset, .unset, .unset, .unset, .unset, .unset] [])) rfl (hb hby at_20) (by decide) (by decide)
    obtain ⟨b3, g3⟩ : ∃ z, z = h0.size := ⟨_, rfl⟩
    rw [← g3] at A3 D3 st3
    have f4 := E_COMPLEX_RELOAD.ext O0.2
    have ne_a_COMPLEX_RELOAD_b3 : a_COMPLEX_RELOAD ≠ b3 := Nat.ne_of_lt (Nat.lt_of_lt_of_le f4.lt (Nat.le_of_eq g3.symm))
    have f5 := E_QUICK_RELOAD.ext O0.2
    have ne_a_QUICK_RELOAD_b3 : a_QUICK_RELOAD ≠ b3 := Nat.ne_of_lt (Nat.lt_of_lt_of_le f5.lt (Nat.le_of_eq g3.symm))
    have f6 := E_THROWN.ext O0.2
    have ne_a_THROWN_b3 : a_THROWN ≠ b3 := Nat.ne_of_lt (Nat.lt_of_lt_of_le f6.lt (Nat.le_of_eq g3.symm))
    have f7 := E_NONE.ext O0.2
    have ne_a_NONE_b3 : a_NONE ≠ b3 := Nat.ne_of_lt (Nat.lt_of_lt_of_le f7.lt (Nat.le_of_eq g3.symm))
    have g_b3 : n0 ≤ b3 := Nat.le_trans (own_z O0) (Nat.le_of_eq g3.symm)
    have O_3 := O0.ext E3
    have F3_range : Fld Z h3 b3 "com/example/roundkeeper/roundkeeper/rulesets/sealedorders/Weapon$Shot" "range" "I" (.int (0 : Int32)) := D3 (Or.inr (hw _ (List.mem_of_getElem? (i := 22) rfl))) (ty := .int) (by decide)
    have F3_loading : Fld Z h3 b3 "com/example/roundkeeper/roundkeeper/rulesets/sealedorders/Weapon$Shot" "loading" "Lcom/example/roundkeeper/roundkeeper/rulesets/sealedorders/Weapon$Loading;" .null := D3 (Or.inr (hw _ (List.mem_of_getElem? (i := 24) rfl))) (ty := (.object "com/example/roundkeeper/roundkeeper/rulesets/sealedorders/Weapon$Loading")) (by decide)
    have F3_wounding : Fld Z h3 b3 "com/example/roundkeeper/roundkeeper/rulesets/sealedorders/Weapon$Shot" "wounding" "Z" (.int (0 : Int32)) := D3 (Or.inr (hw _ (List.mem_of_getElem? (i := 26) rfl))) (ty := .boolean) (by decide)
    refine Goes.step (B := T3.setTop (mkF m 23 #[.val (.int i0), .val (.long i1), .second, .val (.int i2), .val (.int i3), .val (.int i4), .val (.ref r_1), .val (.int (0 : Int32)), .unset, .unset, .unset, .unset, .unset, .unset, .unset, .unset] [(.ref b3)])) st3 ?_
    refine Goes.step (B := T3.setTop (mkF m 24 #[.val (.int i0), .val (.long i1), .second, .val (.int i2), .val (.int i3), .val (.int i4), .val (.ref r_1), .val (.int (0 : Int32)), .unset, .unset, .unset, .unset, .unset, .unset, .unset, .unset] [(.ref b3), (.ref b3)])) (fun _ k => XS.dup X3.here hx rfl (hb hby at_23) rfl rfl k) ?_
    refine Goes.step (B := T3.setTop (mkF m 25 #[.val (.int i0), .val (.long i1), .second, .val (.int i2), .val (.int i3), .val (.int i4), .val (.ref r_1), .val (.int (0 : Int32)), .unset, .unset, .unset, .unset, .unset, .unset, .unset, .unset] [(.int i0), (.ref b3), (.ref b3)])) (fun _ k => XS.iloadN X3.here hx rfl (hb hby at_24) rfl k) ?_
    refine Goes.step (B := T3.setTop (mkF m 27 #[.val (.int i0), .val (.long i1), .second, .val (.int i2), .val (.int i3), .val (.int i4), .val (.ref r_1), .val (.int (0 : Int32)), .unset, .unset, .unset, .unset, .unset, .unset, .unset, .unset] [(.ref r_1), (.int i0), (.ref b3), (.ref b3)])) (fun _ k => XS.aload X3.here hx rfl (hb hby at_25) rfl rfl k) ?_
    refine Goes.step (B := T3.setTop (mkF m 29 #[.val (.int i0), .val (.long i1), .second, .val (.int i2), .val (.int i3), .val (.int i4), .val (.ref r_1), .val (.int (0 : Int32)), .unset, .unset, .unset, .unset, .unset, .unset, .unset, .unset] [(.int (0 : Int32)), (.ref r_1), (.int i0), (.ref b3), (.ref b3)])) (fun _ k => XS.iload X3.here hx rfl (hb hby at_27) rfl k) ?_
    obtain ⟨_, _, ⟨T8, L8, k8, n8⟩, -, X8, ⟨Lc8, hQ8, l8, y8, z8⟩, st8⟩ := X3.specialBack hx (y := (⟨"com/example/roundkeeper/roundkeeper/rulesets/sealedorders/Weapon$Shot", "<init>", "(ILcom/example/roundkeeper/roundkeeper/rulesets/sealedorders/Weapon$Loading;Z)V"⟩ : MethodName)) rfl hown (mvT hZ (hw _ (List.mem_of_getElem? (i := 10) rfl))) (mvT hZ (hw _ (List.mem_of_getElem? (i := 11) rfl))) (mvT hZ (hw _ (List.mem_of_getElem? (i := 12) rfl))) (by decide) (backOf (W := 1) (rm2 l Z a0 hw [] b3 i0 r_1 (0 : Int32) h3 n0 O_3 A3 g_b3 F3_range F3_loading F3_wounding) hZ (hw _ (List.mem_of_getElem? (i := 12) rfl)) (hw _ (List.mem_of_getElem? (i := 9) rfl)) (by decide) (by decide)) (g := (mkF m 29 #[.val (.int i0), .val (.long i1), .second, .val (.int i2), .val (.int i3), .val (.int i4), .val (.ref r_1), .val (.int (0 : Int32)), .unset, .unset, .unset, .unset, .unset, .unset, .unset, .unset] [(.int (0 : Int32)), (.ref r_1), (.int i0), (.ref b3), (.ref b3)])) rfl (by rw [hml]; rfl) (Steps.refl _) (a := b3) (argsL := [(.int i0), (.ref r_1), (.int (0 : Int32))]) (rest := [(.ref b3)]) (lenOf pd_2 rfl) rfl (by show 2 * 0 + _ ≤ _; exact Nat.le_of_eq rfl) (hb hby at_29) (fun _ _ => ⟨rfl, e3, (by decide : 1 + 0 ≤ _), (by decide : 3 + 0 ≤ _)⟩)
    dsimp only [Pt.U, Pt.locs, Pt.cells, Pt.slots] at X8 l8 y8 z8 st8 hQ8
    subst l8 y8 z8
    obtain ⟨rfl, Nq8, Kp8, Ex8, Fc8_range, Fc8_loading, Fc8_wounding⟩ := hQ8
    have O_8 := O_3.keep Kp8 (allS g_b3 all0)
    have N8 := Fr.app N1 Nq8
    refine Goes.via (B := T8.setTop (mkF m 32 #[.val (.int i0), .val (.long i1), .second, .val (.int i2), .val (.int i3), .val (.int i4), .val (.ref r_1), .val (.int (0 : Int32)), .unset, .unset, .unset, .unset, .unset, .unset, .unset, .unset] [(.ref b3)])) st8 ?_
    refine Goes.step (B := T8.setTop (mkF m 34 #[.val (.int i0), .val (.long i1), .second, .val (.int i2), .val (.int i3), .val (.int i4), .val (.ref r_1), .val (.int (0 : Int32)), .val (.ref b3), .unset, .unset, .unset, .unset, .unset, .unset, .unset] [])) (fun _ k => XS.astore X8.here hx rfl (hb hby at_32) rfl rfl (l' := #[.val (.int i0), .val (.long i1), .second, .val (.int i2), .val (.int i3), .val (.int i4), .val (.ref r_1), .val (.int (0 : Int32)), .val (.ref b3), .unset, .unset, .unset, .unset, .unset, .unset, .unset]) rfl k) ?_
    refine Goes.step (B := T8.setTop (mkF m 35 #[.val (.int i0), .val (.long i1), .second, .val (.int i2), .val (.int i3), .val (.int i4), .val (.ref r_1), .val (.int (0 : Int32)), .val (.ref b3), .unset, .unset, .unset, .unset, .unset, .unset, .unset] [(.int i0)])) (fun _ k => XS.iloadN X8.here hx rfl (hb hby at_34) rfl k) ?_
    refine Goes.step (B := T8.setTop (mkF m 36 #[.val (.int i0), .val (.long i1), .second, .val (.int i2), .val (.int i3), .val (.int i4), .val (.ref r_1), .val (.int (0 : Int32)), .val (.ref b3), .unset, .unset, .unset, .unset, .unset, .unset, .unset] [(.long (i0.toInt64))])) (fun _ k => XS.i2l X8.here hx rfl (hb hby at_35) rfl k) ?_
    refine Goes.step (B := T8.setTop (mkF m 38 #[.val (.int i0), .val (.long i1), .second, .val (.int i2), .val (.int i3), .val (.int i4), .val (.ref r_1), .val (.int (0 : Int32)), .val (.ref b3), .val (.long (i0.toInt64)), .second, .unset, .unset, .unset, .unset, .unset] [])) (fun _ k => XS.lstore X8.here hx rfl (hb hby at_36) rfl (l' := #[.val (.int i0), .val (.long i1), .second, .val (.int i2), .val (.int i3), .val (.int i4), .val (.ref r_1), .val (.int (0 : Int32)), .val (.ref b3), .val (.long (i0.toInt64)), .second, .unset, .unset, .unset, .unset, .unset]) rfl k) ?_
    refine Goes.step (B := T8.setTop (mkF m 40 #[.val (.int i0), .val (.long i1), .second, .val (.int i2), .val (.int i3), .val (.int i4), .val (.ref r_1), .val (.int (0 : Int32)), .val (.ref b3), .val (.long (i0.toInt64)), .second, .unset, .unset, .unset, .unset, .unset] [(.long (i0.toInt64))])) (fun _ k => XS.lload X8.here hx rfl (hb hby at_38) rfl k) ?_
    refine Goes.step (B := T8.setTop (mkF m 42 #[.val (.int i0), .val (.long i1), .second, .val (.int i2), .val (.int i3), .val (.int i4), .val (.ref r_1), .val (.int (0 : Int32)), .val (.ref b3), .val (.long (i0.toInt64)), .second, .unset, .unset, .unset, .unset, .unset] [(.long (i0.toInt64)), (.long (i0.toInt64))])) (fun _ k => XS.lload X8.here hx rfl (hb hby at_40) rfl k) ?_
    refine Goes.step (B := T8.setTop (mkF m 43 #[.val (.int i0), .val (.long i1), .second, .val (.int i2), .val (.int i3), .val (.int i4), .val (.ref r_1), .val (.int (0 : Int32)), .val (.ref b3), .val (.long (i0.toInt64)), .second, .unset, .unset, .unset, .unset, .unset] [(.long ((i0.toInt64) + (i0.toInt64)))])) (fun _ k => XS.ladd X8.here hx rfl (hb hby at_42) rfl k) ?_
    refine Goes.step (B := T8.setTop (mkF m 45 #[.val (.int i0), .val (.long i1), .second, .val (.int i2), .val (.int i3), .val (.int i4), .val (.ref r_1), .val (.int (0 : Int32)), .val (.ref b3), .val (.long (i0.toInt64)), .second, .unset, .unset, .unset, .unset, .unset] [(.long (i0.toInt64)), (.long ((i0.toInt64) + (i0.toInt64)))])) (fun _ k => XS.lload X8.here hx rfl (hb hby at_43) rfl k) ?_
    refine Goes.step (B := T8.setTop (mkF m 46 #[.val (.int i0), .val (.long i1), .second, .val (.int i2), .val (.int i3), .val (.int i4), .val (.ref r_1), .val (.int (0 : Int32)), .val (.ref b3), .val (.long (i0.toInt64)), .second, .unset, .unset, .unset, .unset, .unset] [(.long (((i0.toInt64) + (i0.toInt64)) + (i0.toInt64)))])) (fun _ k => XS.ladd X8.here hx rfl (hb hby at_45) rfl k) ?_
    refine Goes.step (B := T8.setTop (mkF m 48 #[.val (.int i0), .val (.long i1), .second, .val (.int i2), .val (.int i3), .val (.int i4), .val (.ref r_1), .val (.int (0 : Int32)), .val (.ref b3), .val (.long (i0.toInt64)), .second, .unset, .unset, .unset, .unset, .unset] [(.long (i0.toInt64)), (.long (((i0.toInt64) + (i0.toInt64)) + (i0.toInt64)))])) (fun _ k => XS.lload X8.here hx rfl (hb hby at_46) rfl k) ?_
    refine Goes.step (B := T8.setTop (mkF m 49 #[.val (.int i0), .val (.long i1), .second, .val (.int i2), .val (.int i3), .val (.int i4), .val (.ref r_1), .val (.int (0 : Int32)), .val (.ref b3), .val (.long (i0.toInt64)), .second, .unset, .unset, .unset, .unset, .unset] [(.long ((((i0.toInt64) + (i0.toInt64)) + (i0.toInt64)) + (i0.toInt64)))])) (fun _ k => XS.ladd X8.here hx rfl (hb hby at_48) rfl k) ?_
    rw [own_4]
    refine Goes.step (B := T8.setTop (mkF m 51 #[.val (.int i0), .val (.long i1), .second, .val (.int i2), .val (.int i3), .val (.int i4), .val (.ref r_1), .val (.int (0 : Int32)), .val (.ref b3), .val (.long (i0.toInt64)), .second, .val (.long ((4 : Int64) * (i0.toInt64))), .second, .unset, .unset, .unset] [])) (fun _ k => XS.lstore X8.here hx rfl (hb hby at_49) rfl (l' := #[.val (.int i0), .val (.long i1), .second, .val (.int i2), .val (.int i3), .val (.int i4), .val (.ref r_1), .val (.int (0 : Int32)), .val (.ref b3), .val (.long (i0.toInt64)), .second, .val (.long ((4 : Int64) * (i0.toInt64))), .second, .unset, .unset, .unset]) rfl k) ?_
    refine Goes.step (B := T8.setTop (mkF m 52 #[.val (.int i0), .val (.long i1), .second, .val (.int i2), .val (.int i3), .val (.int i4), .val (.ref r_1), .val (.int (0 : Int32)), .val (.ref b3), .val (.long (i0.toInt64)), .second, .val (.long ((4 : Int64) * (i0.toInt64))), .second, .unset, .unset, .unset] [(.int i2)])) (fun _ k => XS.iloadN X8.here hx rfl (hb hby at_51) rfl k) ?_
    refine Goes.step (B := T8.setTop (mkF m 53 #[.val (.int i0), .val (.long i1), .second, .val (.int i2), .val (.int i3), .val (.int i4), .val (.ref r_1), .val (.int (0 : Int32)), .val (.ref b3), .val (.long (i0.toInt64)), .second, .val (.long ((4 : Int64) * (i0.toInt64))), .second, .unset, .unset, .unset] [(.int (1 : Int32)), (.int i2)])) (fun _ k => XS.iconst X8.here hx rfl (hb hby at_52) k) ?_
    refine Goes.step (B := T8.setTop (mkF m 54 #[.val (.int i0), .val (.long i1), .second, .val (.int i2), .val (.int i3), .val (.int i4), .val (.ref r_1), .val (.int (0 : Int32)), .val (.ref b3), .val (.long (i0.toInt64)), .second, .val (.long ((4 : Int64) * (i0.toInt64))), .second, .unset, .unset, .unset] [(.int (i2 &&& (1 : Int32)))])) (fun _ k => XS.iand X8.here hx rfl (hb hby at_53) rfl k) ?_
    by_cases hc54_8 : (i2 &&& (1 : Int32)) = (0 : Int32)
    · refine Goes.step (B := T8.setTop (mkF m 68 #[.val (.int i0), .val (.long i1), .second, .val (.int i2), .val (.int i3), .val (.int i4), .val (.ref r_1), .val (.int (0 : Int32)), .val (.ref b3), .val (.long (i0.toInt64)), .second, .val (.long ((4 : Int64) * (i0.toInt64))), .second, .unset, .unset, .unset] [])) (fun _ k => XS.ifYes X8.here hx rfl (pc0 := 54) (pc' := 68) rfl (hb hby at_54) rfl ((if0 _ _).trans (teq hc54_8).1) (by decide) (by decide) k) ?_
      refine Goes.step (B := T8.setTop (mkF m 69 #[.val (.int i0), .val (.long i1), .second, .val (.int i2), .val (.int i3), .val (.int i4), .val (.ref r_1), .val (.int (0 : Int32)), .val (.ref b3), .val (.long (i0.toInt64)), .second, .val (.long ((4 : Int64) * (i0.toInt64))), .second, .unset, .unset, .unset] [(.long i1)])) (fun _ k => XS.lloadN X8.here hx rfl (hb hby at_68) rfl k) ?_
      obtain ⟨fv, hfv⟩ : ∃ z, z = i1 := ⟨_, rfl⟩
      rw [← hfv]
      refine Goes.step (B := T8.setTop (mkF m 71 #[.val (.int i0), .val (.long fv), .second, .val (.int i2), .val (.int i3), .val (.int i4), .val (.ref r_1), .val (.int (0 : Int32)), .val (.ref b3), .val (.long (i0.toInt64)), .second, .val (.long ((4 : Int64) * (i0.toInt64))), .second, .val (.long fv), .second, .unset] [])) (fun _ k => XS.lstore X8.here hx rfl (hb hby at_69) rfl (l' := #[.val (.int i0), .val (.long fv), .second, .val (.int i2), .val (.int i3), .val (.int i4), .val (.ref r_1), .val (.int (0 : Int32)), .val (.ref b3), .val (.long (i0.toInt64)), .second, .val (.long ((4 : Int64) * (i0.toInt64))), .second, .val (.long fv), .second, .unset]) rfl k) ?_
      refine Goes.step (B := T8.setTop (mkF m 73 #[.val (.int i0), .val (.long fv), .second, .val (.int i2), .val (.int i3), .val (.int i4), .val (.ref r_1), .val (.int (0 : Int32)), .val (.ref b3), .val (.long (i0.toInt64)), .second, .val (.long ((4 : Int64) * (i0.toInt64))), .second, .val (.long fv), .second, .unset] [(.long fv)])) (fun _ k => XS.lload X8.here hx rfl (hb hby at_71) rfl k) ?_
      refine Goes.step (B := T8.setTop (mkF m 75 #[.val (.int i0), .val (.long fv), .second, .val (.int i2), .val (.int i3), .val (.int i4), .val (.ref r_1), .val (.int (0 : Int32)), .val (.ref b3), .val (.long (i0.toInt64)), .second, .val (.long ((4 : Int64) * (i0.toInt64))), .second, .val (.long fv), .second, .unset] [(.long ((4 : Int64) * (i0.toInt64))), (.long fv)])) (fun _ k => XS.lload X8.here hx rfl (hb hby at_73) rfl k) ?_
      refine Goes.step (B := T8.setTop (mkF m 76 #[.val (.int i0), .val (.long fv), .second, .val (.int i2), .val (.int i3), .val (.int i4), .val (.ref r_1), .val (.int (0 : Int32)), .val (.ref b3), .val (.long (i0.toInt64)), .second, .val (.long ((4 : Int64) * (i0.toInt64))), .second, .val (.long fv), .second, .unset] [(.int (lcmpW fv ((4 : Int64) * (i0.toInt64))))])) (fun _ k => XS.lcmp X8.here hx rfl (hb hby at_75) rfl k) ?_
      by_cases hc76_9 : ((4 : Int64) * (i0.toInt64)) < fv
      · refine Goes.step (B := T8.setTop (mkF m 83 #[.val (.int i0), .val (.long fv), .second, .val (.int i2), .val (.int i3), .val (.int i4), .val (.ref r_1), .val (.int (0 : Int32)), .val (.ref b3), .val (.long (i0.toInt64)), .second, .val (.long ((4 : Int64) * (i0.toInt64))), .second, .val (.long fv), .second, .unset] [])) (fun _ k => XS.ifYes X8.here hx rfl (pc0 := 76) (pc' := 83) rfl (hb hby at_76) rfl ((if0 _ _).trans (tlt ((lw_gt _ _).mpr hc76_9)).2.2.1) (by decide) (by decide) k) ?_
        refine Goes.step (B := T8.setTop (mkF m 84 #[.val (.int i0), .val (.long fv), .second, .val (.int i2), .val (.int i3), .val (.int i4), .val (.ref r_1), .val (.int (0 : Int32)), .val (.ref b3), .val (.long (i0.toInt64)), .second, .val (.long ((4 : Int64) * (i0.toInt64))), .second, .val (.long fv), .second, .unset] [(.int (0 : Int32))])) (fun _ k => XS.iconst X8.here hx rfl (hb hby at_83) k) ?_
        refine Goes.step (B := T8.setTop (mkF m 86 #[.val (.int i0), .val (.long fv), .second, .val (.int i2), .val (.int i3), .val (.int i4), .val (.ref r_1), .val (.int (0 : Int32)), .val (.ref b3), .val (.long (i0.toInt64)), .second, .val (.long ((4 : Int64) * (i0.toInt64))), .second, .val (.long fv), .second, .val (.int (0 : Int32))] [])) (fun _ k => XS.istore X8.here hx rfl (hb hby at_84) rfl (l' := #[.val (.int i0), .val (.long fv), .second, .val (.int i2), .val (.int i3), .val (.int i4), .val (.ref r_1), .val (.int (0 : Int32)), .val (.ref b3), .val (.long (i0.toInt64)), .second, .val (.long ((4 : Int64) * (i0.toInt64))), .second, .val (.long fv), .second, .val (.int (0 : Int32))]) rfl k) ?_
        refine Goes.step (B := T8.setTop (mkF m 88 #[.val (.int i0), .val (.long fv), .second, .val (.int i2), .val (.int i3), .val (.int i4), .val (.ref r_1), .val (.int (0 : Int32)), .val (.ref b3), .val (.long (i0.toInt64)), .second, .val (.long ((4 : Int64) * (i0.toInt64))), .second, .val (.long fv), .second, .val (.int (0 : Int32))] [(.ref b3)])) (fun _ k => XS.aload X8.here hx rfl (hb hby at_86) rfl rfl k) ?_
        refine Goes.step (B := T8.setTop (mkF m 90 #[.val (.int i0), .val (.long fv), .second, .val (.int i2), .val (.int i3), .val (.int i4), .val (.ref r_1), .val (.int (0 : Int32)), .val (.ref b3), .val (.long (i0.toInt64)), .second, .val (.long ((4 : Int64) * (i0.toInt64))), .second, .val (.long fv), .second, .val (.int (0 : Int32))] [(.long fv), (.ref b3)])) (fun _ k => XS.lload X8.here hx rfl (hb hby at_88) rfl k) ?_
        obtain ⟨cq11, kq11, qa11, qb11, qc11⟩ := isOf hZ rfl Ex8
        obtain ⟨_, _, ⟨T11, L11, k11, n11⟩, -, X11, ⟨Lc11, hQ11, l11, y11, z11⟩, st11⟩ := X8.virtualBack hx (y := (⟨"com/example/roundkeeper/roundkeeper/rulesets/sealedorders/Weapon$Shot", "reaches", "(J)Z"⟩ : MethodName)) (z := (⟨"com/example/roundkeeper/roundkeeper/rulesets/sealedorders/Weapon$Shot", "reaches", "(J)Z"⟩ : MethodName)) hown (mvT hZ (hw _ (List.mem_of_getElem? (i := 27) rfl))) (mvT hZ (hw _ (List.mem_of_getElem? (i := 28) rfl))) (notFace_of_selects (args := #[]) (mvT hZ (hw _ (List.mem_of_getElem? (i := 30) rfl)))) (mvT hZ (hw _ (List.mem_of_getElem? (i := 30) rfl))) (mvT hZ (hw _ (List.mem_of_getElem? (i := 29) rfl))) (by decide) (backOf (W := 0) (rmr0 l Z a0 hw [] b3 fv i0 T8.heap n0 O_8 hc76_9 Fc8_range) hZ (hw _ (List.mem_of_getElem? (i := 31) rfl)) (hw _ (List.mem_of_getElem? (i := 9) rfl)) (by decide) (by decide)) qa11 qc11 (g := (mkF m 90 #[.val (.int i0), .val (.long fv), .second, .val (.int i2), .val (.int i3), .val (.int i4), .val (.ref r_1), .val (.int (0 : Int32)), .val (.ref b3), .val (.long (i0.toInt64)), .second, .val (.long ((4 : Int64) * (i0.toInt64))), .second, .val (.long fv), .second, .val (.int (0 : Int32))] [(.long fv), (.ref b3)])) rfl (by rw [hml]; rfl) (Steps.refl _) (argsL := [(.long fv)]) (rest := []) (lenOf pd_3 rfl) rfl (by show 2 * 0 + _ ≤ _; exact Nat.le_of_eq rfl) (hb hby at_90) (fun _ _ => ⟨rfl, rfl, (by decide : 1 + 0 ≤ _), (by decide : 3 + 0 ≤ _)⟩)
        dsimp only [Pt.U, Pt.locs, Pt.cells, Pt.slots] at X11 l11 y11 z11 st11 hQ11
        subst l11 y11 z11
        obtain ⟨rfl, Nq11, eh11⟩ := hQ11
        have N11 := Fr.app N8 Nq11
        refine Goes.via (B := T11.setTop (mkF m 93 #[.val (.int i0), .val (.long fv), .second, .val (.int i2), .val (.int i3), .val (.int i4), .val (.ref r_1), .val (.int (0 : Int32)), .val (.ref b3), .val (.long (i0.toInt64)), .second, .val (.long ((4 : Int64) * (i0.toInt64))), .second, .val (.long fv), .second, .val (.int (0 : Int32))] [(.int (0 : Int32))])) st11 ?_
        refine Goes.step (B := T11.setTop (mkF m 95 #[.val (.int i0), .val (.long fv), .second, .val (.int i2), .val (.int i3), .val (.int i4), .val (.ref r_1), .val (.int (0 : Int32)), .val (.ref b3), .val (.long (i0.toInt64)), .second, .val (.long ((4 : Int64) * (i0.toInt64))), .second, .val (.long fv), .second, .val (.int (0 : Int32))] [(.int (0 : Int32)), (.int (0 : Int32))])) (fun _ k => XS.iload X11.here hx rfl (hb hby at_93) rfl k) ?_
        refine Goes.step (B := T11.setTop (mkF m 98 #[.val (.int i0), .val (.long fv), .second, .val (.int i2), .val (.int i3), .val (.int i4), .val (.ref r_1), .val (.int (0 : Int32)), .val (.ref b3), .val (.long (i0.toInt64)), .second, .val (.long ((4 : Int64) * (i0.toInt64))), .second, .val (.long fv), .second, .val (.int (0 : Int32))] [])) (fun _ k => XS.icmpNo X11.here hx rfl (hb hby at_95) rfl (teq (by decide)).2 k) ?_
        refine Goes.step (B := T11.setTop (mkF m 99 #[.val (.int i0), .val (.long fv), .second, .val (.int i2), .val (.int i3), .val (.int i4), .val (.ref r_1), .val (.int (0 : Int32)), .val (.ref b3), .val (.long (i0.toInt64)), .second, .val (.long ((4 : Int64) * (i0.toInt64))), .second, .val (.long fv), .second, .val (.int (0 : Int32))] [(.int (1 : Int32))])) (fun _ k => XS.iconst X11.here hx rfl (hb hby at_98) k) ?_
        refine Goes.step (B := T11.setTop (mkF m 103 #[.val (.int i0), .val (.long fv), .second, .val (.int i2), .val (.int i3), .val (.int i4), .val (.ref r_1), .val (.int (0 : Int32)), .val (.ref b3), .val (.long (i0.toInt64)), .second, .val (.long ((4 : Int64) * (i0.toInt64))), .second, .val (.long fv), .second, .val (.int (0 : Int32))] [(.int (1 : Int32))])) (fun _ k => XS.goto X11.here hx rfl (pc0 := 99) (pc' := 103) rfl (hb hby at_99) (by decide) (by decide) k) ?_
        exact Goes.retN X11 hx eh11 (t := .boolean) Bd.returns (by simp) hlk (hb hby at_103) (by decide) (by decide) (⟨rfl, N11⟩)
      · refine Goes.step (B := T8.setTop (mkF m 79 #[.val (.int i0), .val (.long fv), .second, .val (.int i2), .val (.int i3), .val (.int i4), .val (.ref r_1), .val (.int (0 : Int32)), .val (.ref b3), .val (.long (i0.toInt64)), .second, .val (.long ((4 : Int64) * (i0.toInt64))), .second, .val (.long fv), .second, .unset] [])) (fun _ k => XS.ifNo X8.here hx rfl (hb hby at_76) rfl ((if0 _ _).trans (flt (fun q => hc76_9 ((lw_gt _ _).mp q))).2.2.1) k) ?_
        refine Goes.step (B := T8.setTop (mkF m 80 #[.val (.int i0), .val (.long fv), .second, .val (.int i2), .val (.int i3), .val (.int i4), .val (.ref r_1), .val (.int (0 : Int32)), .val (.ref b3), .val (.long (i0.toInt64)), .second, .val (.long ((4 : Int64) * (i0.toInt64))), .second, .val (.long fv), .second, .unset] [(.int (1 : Int32))])) (fun _ k => XS.iconst X8.here hx rfl (hb hby at_79) k) ?_
        refine Goes.step (B := T8.setTop (mkF m 84 #[.val (.int i0), .val (.long fv), .second, .val (.int i2), .val (.int i3), .val (.int i4), .val (.ref r_1), .val (.int (0 : Int32)), .val (.ref b3), .val (.long (i0.toInt64)), .second, .val (.long ((4 : Int64) * (i0.toInt64))), .second, .val (.long fv), .second, .unset] [(.int (1 : Int32))])) (fun _ k => XS.goto X8.here hx rfl (pc0 := 80) (pc' := 84) rfl (hb hby at_80) (by decide) (by decide) k) ?_
        refine Goes.step (B := T8.setTop (mkF m 86 #[.val (.int i0), .val (.long fv), .second, .val (.int i2), .val (.int i3), .val (.int i4), .val (.ref r_1), .val (.int (0 : Int32)), .val (.ref b3), .val (.long (i0.toInt64)), .second, .val (.long ((4 : Int64) * (i0.toInt64))), .second, .val (.long fv), .second, .val (.int (1 : Int32))] [])) (fun _ k => XS.istore X8.here hx rfl (hb hby at_84) rfl (l' := #[.val (.int i0), .val (.long fv), .second, .val (.int i2), .val (.int i3), .val (.int i4), .val (.ref r_1), .val (.int (0 : Int32)), .val (.ref b3), .val (.long (i0.toInt64)), .second, .val (.long ((4 : Int64) * (i0.toInt64))), .second, .val (.long fv), .second, .val (.int (1 : Int32))]) rfl k) ?_
        refine Goes.step (B := T8.setTop (mkF m 88 #[.val (.int i0), .val (.long fv), .second, .val (.int i2), .val (.int i3), .val (.int i4), .val (.ref r_1), .val (.int (0 : Int32)), .val (.ref b3), .val (.long (i0.toInt64)), .second, .val (.long ((4 : Int64) * (i0.toInt64))), .second, .val (.long fv), .second, .val (.int (1 : Int32))] [(.ref b3)])) (fun _ k => XS.aload X8.here hx rfl (hb hby at_86) rfl rfl k) ?_
        refine Goes.step (B := T8.setTop (mkF m 90 #[.val (.int i0), .val (.long fv), .second, .val (.int i2), .val (.int i3), .val (.int i4), .val (.ref r_1), .val (.int (0 : Int32)), .val (.ref b3), .val (.long (i0.toInt64)), .second, .val (.long ((4 : Int64) * (i0.toInt64))), .second, .val (.long fv), .second, .val (.int (1 : Int32))] [(.long fv), (.ref b3)])) (fun _ k => XS.lload X8.here hx rfl (hb hby at_88) rfl k) ?_
        obtain ⟨cq12, kq12, qa12, qb12, qc12⟩ := isOf hZ rfl Ex8
        obtain ⟨_, _, ⟨T12, L12, k12, n12⟩, -, X12, ⟨Lc12, hQ12, l12, y12, z12⟩, st12⟩ := X8.virtualBack hx (y := (⟨"com/example/roundkeeper/roundkeeper/rulesets/sealedorders/Weapon$Shot", "reaches", "(J)Z"⟩ : MethodName)) (z := (⟨"com/example/roundkeeper/roundkeeper/rulesets/sealedorders/Weapon$Shot", "reaches", "(J)Z"⟩ : MethodName)) hown (mvT hZ (hw _ (List.mem_of_getElem? (i := 27) rfl))) (mvT hZ (hw _ (List.mem_of_getElem? (i := 28) rfl))) (notFace_of_selects (args := #[]) (mvT hZ (hw _ (List.mem_of_getElem? (i := 30) rfl)))) (mvT hZ (hw _ (List.mem_of_getElem? (i := 30) rfl))) (mvT hZ (hw _ (List.mem_of_getElem? (i := 29) rfl))) (by decide) (backOf (W := 0) (rmr1 l Z a0 hw [] b3 fv i0 T8.heap n0 O_8 hc76_9 Fc8_range) hZ (hw _ (List.mem_of_getElem? (i := 31) rfl)) (hw _ (List.mem_of_getElem? (i := 9) rfl)) (by decide) (by decide)) qa12 qc12 (g := (mkF m 90 #[.val (.int i0), .val (.long fv), .second, .val (.int i2), .val (.int i3), .val (.int i4), .val (.ref r_1), .val (.int (0 : Int32)), .val (.ref b3), .val (.long (i0.toInt64)), .second, .val (.long ((4 : Int64) * (i0.toInt64))), .second, .val (.long fv), .second, .val (.int (1 : Int32))] [(.long fv), (.ref b3)])) rfl (by rw [hml]; rfl) (Steps.refl _) (argsL := [(.long fv)]) (rest := []) (lenOf pd_3 rfl) rfl (by show 2 * 0 + _ ≤ _; exact Nat.le_of_eq rfl) (hb hby at_90) (fun _ _ => ⟨rfl, rfl, (by decide : 1 + 0 ≤ _), (by decide : 3 + 0 ≤ _)⟩)
        dsimp only [Pt.U, Pt.locs, Pt.cells, Pt.slots] at X12 l12 y12 z12 st12 hQ12
        subst l12 y12 z12
        obtain ⟨rfl, Nq12, eh12⟩ := hQ12
        have N12 := Fr.app N8 Nq12
        refine Goes.via (B := T12.setTop (mkF m 93 #[.val (.int i0), .val (.long fv), .second, .val (.int i2), .val (.int i3), .val (.int i4), .val (.ref r_1), .val (.int (0 : Int32)), .val (.ref b3), .val (.long (i0.toInt64)), .second, .val (.long ((4 : Int64) * (i0.toInt64))), .second, .val (.long fv), .second, .val (.int (1 : Int32))] [(.int (1 : Int32))])) st12 ?_
        refine Goes.step (B := T12.setTop (mkF m 95 #[.val (.int i0), .val (.long fv), .second, .val (.int i2), .val (.int i3), .val (.int i4), .val (.ref r_1), .val (.int (0 : Int32)), .val (.ref b3), .val (.long (i0.toInt64)), .second, .val (.long ((4 : Int64) * (i0.toInt64))), .second, .val (.long fv), .second, .val (.int (1 : Int32))] [(.int (1 : Int32)), (.int (1 : Int32))])) (fun _ k => XS.iload X12.here hx rfl (hb hby at_93) rfl k) ?_
        refine Goes.step (B := T12.setTop (mkF m 98 #[.val (.int i0), .val (.long fv), .second, .val (.int i2), .val (.int i3), .val (.int i4), .val (.ref r_1), .val (.int (0 : Int32)), .val (.ref b3), .val (.long (i0.toInt64)), .second, .val (.long ((4 : Int64) * (i0.toInt64))), .second, .val (.long fv), .second, .val (.int (1 : Int32))] [])) (fun _ k => XS.icmpNo X12.here hx rfl (hb hby at_95) rfl (teq (by decide)).2 k) ?_
        refine Goes.step (B := T12.setTop (mkF m 99 #[.val (.int i0), .val (.long fv), .second, .val (.int i2), .val (.int i3), .val (.int i4), .val (.ref r_1), .val (.int (0 : Int32)), .val (.ref b3), .val (.long (i0.toInt64)), .second, .val (.long ((4 : Int64) * (i0.toInt64))), .second, .val (.long fv), .second, .val (.int (1 : Int32))] [(.int (1 : Int32))])) (fun _ k => XS.iconst X12.here hx rfl (hb hby at_98) k) ?_
        refine Goes.step (B := T12.setTop (mkF m 103 #[.val (.int i0), .val (.long fv), .second, .val (.int i2), .val (.int i3), .val (.int i4), .val (.ref r_1), .val (.int (0 : Int32)), .val (.ref b3), .val (.long (i0.toInt64)), .second, .val (.long ((4 : Int64) * (i0.toInt64))), .second, .val (.long fv), .second, .val (.int (1 : Int32))] [(.int (1 : Int32))])) (fun _ k => XS.goto X12.here hx rfl (pc0 := 99) (pc' := 103) rfl (hb hby at_99) (by decide) (by decide) k) ?_
        exact Goes.retN X12 hx eh12 (t := .boolean) Bd.returns (by simp) hlk (hb hby at_103) (by decide) (by decide) (⟨rfl, N12⟩)
    · refine Goes.step (B := T8.setTop (mkF m 57 #[.val (.int i0), .val (.long i1), .second, .val (.int i2), .val (.int i3), .val (.int i4), .val (.ref r_1), .val (.int (0 : Int32)), .val (.ref b3), .val (.long (i0.toInt64)), .second, .val (.long ((4 : Int64) * (i0.toInt64))), .second, .unset, .unset, .unset] [])) (fun _ k => XS.ifNo X8.here hx rfl (hb hby at_54) rfl ((if0 _ _).trans (feq hc54_8).1) k) ?_
      refine Goes.step (B := T8.setTop (mkF m 59 #[.val (.int i0), .val (.long i1), .second, .val (.int i2), .val (.int i3), .val (.int i4), .val (.ref r_1), .val (.int (0 : Int32)), .val (.ref b3), .val (.long (i0.toInt64)), .second, .val (.long ((4 : Int64) * (i0.toInt64))), .second, .unset, .unset, .unset] [(.long ((4 : Int64) * (i0.toInt64)))])) (fun _ k => XS.lload X8.here hx rfl (hb hby at_57) rfl k) ?_
      refine Goes.step (B := T8.setTop (mkF m 61 #[.val (.int i0), .val (.long i1), .second, .val (.int i2), .val (.int i3), .val (.int i4), .val (.ref r_1), .val (.int (0 : Int32)), .val (.ref b3), .val (.long (i0.toInt64)), .second, .val (.long ((4 : Int64) * (i0.toInt64))), .second, .unset, .unset, .unset] [(.int i3), (.long ((4 : Int64) * (i0.toInt64)))])) (fun _ k => XS.iload X8.here hx rfl (hb hby at_59) rfl k) ?_
      refine Goes.step (B := T8.setTop (mkF m 62 #[.val (.int i0), .val (.long i1), .second, .val (.int i2), .val (.int i3), .val (.int i4), .val (.ref r_1), .val (.int (0 : Int32)), .val (.ref b3), .val (.long (i0.toInt64)), .second, .val (.long ((4 : Int64) * (i0.toInt64))), .second, .unset, .unset, .unset] [(.int (3 : Int32)), (.int i3), (.long ((4 : Int64) * (i0.toInt64)))])) (fun _ k => XS.iconst X8.here hx rfl (hb hby at_61) k) ?_
      refine Goes.step (B := T8.setTop (mkF m 63 #[.val (.int i0), .val (.long i1), .second, .val (.int i2), .val (.int i3), .val (.int i4), .val (.ref r_1), .val (.int (0 : Int32)), .val (.ref b3), .val (.long (i0.toInt64)), .second, .val (.long ((4 : Int64) * (i0.toInt64))), .second, .unset, .unset, .unset] [(.int (i3 % (3 : Int32))), (.long ((4 : Int64) * (i0.toInt64)))])) (fun _ k => iremM X8 hx rfl (hb hby at_62) rfl (by decide) k) ?_
      refine Goes.step (B := T8.setTop (mkF m 64 #[.val (.int i0), .val (.long i1), .second, .val (.int i2), .val (.int i3), .val (.int i4), .val (.ref r_1), .val (.int (0 : Int32)), .val (.ref b3), .val (.long (i0.toInt64)), .second, .val (.long ((4 : Int64) * (i0.toInt64))), .second, .unset, .unset, .unset] [(.long (i3 % (3 : Int32)).toInt64), (.long ((4 : Int64) * (i0.toInt64)))])) (fun _ k => XS.i2l X8.here hx rfl (hb hby at_63) rfl k) ?_
      refine Goes.step (B := T8.setTop (mkF m 65 #[.val (.int i0), .val (.long i1), .second, .val (.int i2), .val (.int i3), .val (.int i4), .val (.ref r_1), .val (.int (0 : Int32)), .val (.ref b3), .val (.long (i0.toInt64)), .second, .val (.long ((4 : Int64) * (i0.toInt64))), .second, .unset, .unset, .unset] [(.long (((4 : Int64) * (i0.toInt64)) + (i3 % (3 : Int32)).toInt64))])) (fun _ k => XS.ladd X8.here hx rfl (hb hby at_64) rfl k) ?_
      refine Goes.step (B := T8.setTop (mkF m 69 #[.val (.int i0), .val (.long i1), .second, .val (.int i2), .val (.int i3), .val (.int i4), .val (.ref r_1), .val (.int (0 : Int32)), .val (.ref b3), .val (.long (i0.toInt64)), .second, .val (.long ((4 : Int64) * (i0.toInt64))), .second, .unset, .unset, .unset] [(.long (((4 : Int64) * (i0.toInt64)) + (i3 % (3 : Int32)).toInt64))])) (fun _ k => XS.goto X8.here hx rfl (pc0 := 65) (pc' := 69) rfl (hb hby at_65) (by decide) (by decide) k) ?_
      obtain ⟨fv, hfv⟩ : ∃ z, z = (((4 : Int64) * (i0.toInt64)) + (i3 % (3 : Int32)).toInt64) := ⟨_, rfl⟩
      rw [← hfv]
      refine Goes.step (B := T8.setTop (mkF m 71 #[.val (.int i0), .val (.long i1), .second, .val (.int i2), .val (.int i3), .val (.int i4), .val (.ref r_1), .val (.int (0 : Int32)), .val (.ref b3), .val (.long (i0.toInt64)), .second, .val (.long ((4 : Int64) * (i0.toInt64))), .second, .val (.long fv), .second, .unset] [])) (fun _ k => XS.lstore X8.here hx rfl (hb hby at_69) rfl (l' := #[.val (.int i0), .val (.long i1), .second, .val (.int i2), .val (.int i3), .val (.int i4), .val (.ref r_1), .val (.int (0 : Int32)), .val (.ref b3), .val (.long (i0.toInt64)), .second, .val (.long ((4 : Int64) * (i0.toInt64))), .second, .val (.long fv), .second, .unset]) rfl k) ?_
      refine Goes.step (B := T8.setTop (mkF m 73 #[.val (.int i0), .val (.long i1), .second, .val (.int i2), .val (.int i3), .val (.int i4), .val (.ref r_1), .val (.int (0 : Int32)), .val (.ref b3), .val (.long (i0.toInt64)), .second, .val (.long ((4 : Int64) * (i0.toInt64))), .second, .val (.long fv), .second, .unset] [(.long fv)])) (fun _ k => XS.lload X8.here hx rfl (hb hby at_71) rfl k) ?_
      refine Goes.step (B := T8.setTop (mkF m 75 #[.val (.int i0), .val (.long i1), .second, .val (.int i2), .val (.int i3), .val (.int i4), .val (.ref r_1), .val (.int (0 : Int32)), .val (.ref b3), .val (.long (i0.toInt64)), .second, .val (.long ((4 : Int64) * (i0.toInt64))), .second, .val (.long fv), .second, .unset] [(.long ((4 : Int64) * (i0.toInt64))), (.long fv)])) (fun _ k => XS.lload X8.here hx rfl (hb hby at_73) rfl k) ?_
      refine Goes.step (B := T8.setTop (mkF m 76 #[.val (.int i0), .val (.long i1), .second, .val (.int i2), .val (.int i3), .val (.int i4), .val (.ref r_1), .val (.int (0 : Int32)), .val (.ref b3), .val (.long (i0.toInt64)), .second, .val (.long ((4 : Int64) * (i0.toInt64))), .second, .val (.long fv), .second, .unset] [(.int (lcmpW fv ((4 : Int64) * (i0.toInt64))))])) (fun _ k => XS.lcmp X8.here hx rfl (hb hby at_75) rfl k) ?_
      by_cases hc76_12 : ((4 : Int64) * (i0.toInt64)) < fv
      · refine Goes.step (B := T8.setTop (mkF m 83 #[.val (.int i0), .val (.long i1), .second, .val (.int i2), .val (.int i3), .val (.int i4), .val (.ref r_1), .val (.int (0 : Int32)), .val (.ref b3), .val (.long (i0.toInt64)), .second, .val (.long ((4 : Int64) * (i0.toInt64))), .second, .val (.long fv), .second, .unset] [])) (fun _ k => XS.ifYes X8.here hx rfl (pc0 := 76) (pc' := 83) rfl (hb hby at_76) rfl ((if0 _ _).trans (tlt ((lw_gt _ _).mpr hc76_12)).2.2.1) (by decide) (by decide) k) ?_
        refine Goes.step (B := T8.setTop (mkF m 84 #[.val (.int i0), .val (.long i1), .second, .val (.int i2), .val (.int i3), .val (.int i4), .val (.ref r_1), .val (.int (0 : Int32)), .val (.ref b3), .val (.long (i0.toInt64)), .second, .val (.long ((4 : Int64) * (i0.toInt64))), .second, .val (.long fv), .second, .unset] [(.int (0 : Int32))])) (fun _ k => XS.iconst X8.here hx rfl (hb hby at_83) k) ?_
        refine Goes.step (B := T8.setTop (mkF m 86 #[.val (.int i0), .val (.long i1), .second, .val (.int i2), .val (.int i3), .val (.int i4), .val (.ref r_1), .val (.int (0 : Int32)), .val (.ref b3), .val (.long (i0.toInt64)), .second, .val (.long ((4 : Int64) * (i0.toInt64))), .second, .val (.long fv), .second, .val (.int (0 : Int32))] [])) (fun _ k => XS.istore X8.here hx rfl (hb hby at_84) rfl (l' := #[.val (.int i0), .val (.long i1), .second, .val (.int i2), .val (.int i3), .val (.int i4), .val (.ref r_1), .val (.int (0 : Int32)), .val (.ref b3), .val (.long (i0.toInt64)), .second, .val (.long ((4 : Int64) * (i0.toInt64))), .second, .val (.long fv), .second, .val (.int (0 : Int32))]) rfl k) ?_
        refine Goes.step (B := T8.setTop (mkF m 88 #[.val (.int i0), .val (.long i1), .second, .val (.int i2), .val (.int i3), .val (.int i4), .val (.ref r_1), .val (.int (0 : Int32)), .val (.ref b3), .val (.long (i0.toInt64)), .second, .val (.long ((4 : Int64) * (i0.toInt64))), .second, .val (.long fv), .second, .val (.int (0 : Int32))] [(.ref b3)])) (fun _ k => XS.aload X8.here hx rfl (hb hby at_86) rfl rfl k) ?_
        refine Goes.step (B := T8.setTop (mkF m 90 #[.val (.int i0), .val (.long i1), .second, .val (.int i2), .val (.int i3), .val (.int i4), .val (.ref r_1), .val (.int (0 : Int32)), .val (.ref b3), .val (.long (i0.toInt64)), .second, .val (.long ((4 : Int64) * (i0.toInt64))), .second, .val (.long fv), .second, .val (.int (0 : Int32))] [(.long fv), (.ref b3)])) (fun _ k => XS.lload X8.here hx rfl (hb hby at_88) rfl k) ?_
        obtain ⟨cq14, kq14, qa14, qb14, qc14⟩ := isOf hZ rfl Ex8
        obtain ⟨_, _, ⟨T14, L14, k14, n14⟩, -, X14, ⟨Lc14, hQ14, l14, y14, z14⟩, st14⟩ := X8.virtualBack hx (y := (⟨"com/example/roundkeeper/roundkeeper/rulesets/sealedorders/Weapon$Shot", "reaches", "(J)Z"⟩ : MethodName)) (z := (⟨"com/example/roundkeeper/roundkeeper/rulesets/sealedorders/Weapon$Shot", "reaches", "(J)Z"⟩ : MethodName)) hown (mvT hZ (hw _ (List.mem_of_getElem? (i := 27) rfl))) (mvT hZ (hw _ (List.mem_of_getElem? (i := 28) rfl))) (notFace_of_selects (args := #[]) (mvT hZ (hw _ (List.mem_of_getElem? (i := 30) rfl)))) (mvT hZ (hw _ (List.mem_of_getElem? (i := 30) rfl))) (mvT hZ (hw _ (List.mem_of_getElem? (i := 29) rfl))) (by decide) (backOf (W := 0) (rmr0 l Z a0 hw [] b3 fv i0 T8.heap n0 O_8 hc76_12 Fc8_range) hZ (hw _ (List.mem_of_getElem? (i := 31) rfl)) (hw _ (List.mem_of_getElem? (i := 9) rfl)) (by decide) (by decide)) qa14 qc14 (g := (mkF m 90 #[.val (.int i0), .val (.long i1), .second, .val (.int i2), .val (.int i3), .val (.int i4), .val (.ref r_1), .val (.int (0 : Int32)), .val (.ref b3), .val (.long (i0.toInt64)), .second, .val (.long ((4 : Int64) * (i0.toInt64))), .second, .val (.long fv), .second, .val (.int (0 : Int32))] [(.long fv), (.ref b3)])) rfl (by rw [hml]; rfl) (Steps.refl _) (argsL := [(.long fv)]) (rest := []) (lenOf pd_3 rfl) rfl (by show 2 * 0 + _ ≤ _; exact Nat.le_of_eq rfl) (hb hby at_90) (fun _ _ => ⟨rfl, rfl, (by decide : 1 + 0 ≤ _), (by decide : 3 + 0 ≤ _)⟩)
        dsimp only [Pt.U, Pt.locs, Pt.cells, Pt.slots] at X14 l14 y14 z14 st14 hQ14
        subst l14 y14 z14
        obtain ⟨rfl, Nq14, eh14⟩ := hQ14
        have N14 := Fr.app N8 Nq14
        refine Goes.via (B := T14.setTop (mkF m 93 #[.val (.int i0), .val (.long i1), .second, .val (.int i2), .val (.int i3), .val (.int i4), .val (.ref r_1), .val (.int (0 : Int32)), .val (.ref b3), .val (.long (i0.toInt64)), .second, .val (.long ((4 : Int64) * (i0.toInt64))), .second, .val (.long fv), .second, .val (.int (0 : Int32))] [(.int (0 : Int32))])) st14 ?_
        refine Goes.step (B := T14.setTop (mkF m 95 #[.val (.int i0), .val (.long i1), .second, .val (.int i2), .val (.int i3), .val (.int i4), .val (.ref r_1), .val (.int (0 : Int32)), .val (.ref b3), .val (.long (i0.toInt64)), .second, .val (.long ((4 : Int64) * (i0.toInt64))), .second, .val (.long fv), .second, .val (.int (0 : Int32))] [(.int (0 : Int32)), (.int (0 : Int32))])) (fun _ k => XS.iload X14.here hx rfl (hb hby at_93) rfl k) ?_
        refine Goes.step (B := T14.setTop (mkF m 98 #[.val (.int i0), .val (.long i1), .second, .val (.int i2), .val (.int i3), .val (.int i4), .val (.ref r_1), .val (.int (0 : Int32)), .val (.ref b3), .val (.long (i0.toInt64)), .second, .val (.long ((4 : Int64) * (i0.toInt64))), .second, .val (.long fv), .second, .val (.int (0 : Int32))] [])) (fun _ k => XS.icmpNo X14.here hx rfl (hb hby at_95) rfl (teq (by decide)).2 k) ?_
        refine Goes.step (B := T14.setTop (mkF m 99 #[.val (.int i0), .val (.long i1), .second, .val (.int i2), .val (.int i3), .val (.int i4), .val (.ref r_1), .val (.int (0 : Int32)), .val (.ref b3), .val (.long (i0.toInt64)), .second, .val (.long ((4 : Int64) * (i0.toInt64))), .second, .val (.long fv), .second, .val (.int (0 : Int32))] [(.int (1 : Int32))])) (fun _ k => XS.iconst X14.here hx rfl (hb hby at_98) k) ?_
        refine Goes.step (B := T14.setTop (mkF m 103 #[.val (.int i0), .val (.long i1), .second, .val (.int i2), .val (.int i3), .val (.int i4), .val (.ref r_1), .val (.int (0 : Int32)), .val (.ref b3), .val (.long (i0.toInt64)), .second, .val (.long ((4 : Int64) * (i0.toInt64))), .second, .val (.long fv), .second, .val (.int (0 : Int32))] [(.int (1 : Int32))])) (fun _ k => XS.goto X14.here hx rfl (pc0 := 99) (pc' := 103) rfl (hb hby at_99) (by decide) (by decide) k) ?_
        exact Goes.retN X14 hx eh14 (t := .boolean) Bd.returns (by simp) hlk (hb hby at_103) (by decide) (by decide) (⟨rfl, N14⟩)
      · refine Goes.step (B := T8.setTop (mkF m 79 #[.val (.int i0), .val (.long i1), .second, .val (.int i2), .val (.int i3), .val (.int i4), .val (.ref r_1), .val (.int (0 : Int32)), .val (.ref b3), .val (.long (i0.toInt64)), .second, .val (.long ((4 : Int64) * (i0.toInt64))), .second, .val (.long fv), .second, .unset] [])) (fun _ k => XS.ifNo X8.here hx rfl (hb hby at_76) rfl ((if0 _ _).trans (flt (fun q => hc76_12 ((lw_gt _ _).mp q))).2.2.1) k) ?_
        refine Goes.step (B := T8.setTop (mkF m 80 #[.val (.int i0), .val (.long i1), .second, .val (.int i2), .val (.int i3), .val (.int i4), .val (.ref r_1), .val (.int (0 : Int32)), .val (.ref b3), .val (.long (i0.toInt64)), .second, .val (.long ((4 : Int64) * (i0.toInt64))), .second, .val (.long fv), .second, .unset] [(.int (1 : Int32))])) (fun _ k => XS.iconst X8.here hx rfl (hb hby at_79) k) ?_
        refine Goes.step (B := T8.setTop (mkF m 84 #[.val (.int i0), .val (.long i1), .second, .val (.int i2), .val (.int i3), .val (.int i4), .val (.ref r_1), .val (.int (0 : Int32)), .val (.ref b3), .val (.long (i0.toInt64)), .second, .val (.long ((4 : Int64) * (i0.toInt64))), .second, .val (.long fv), .second, .unset] [(.int (1 : Int32))])) (fun _ k => XS.goto X8.here hx rfl (pc0 := 80) (pc' := 84) rfl (hb hby at_80) (by decide) (by decide) k) ?_
        refine Goes.step (B := T8.setTop (mkF m 86 #[.val (.int i0), .val (.long i1), .second, .val (.int i2), .val (.int i3), .val (.int i4), .val (.ref r_1), .val (.int (0 : Int32)), .val (.ref b3), .val (.long (i0.toInt64)), .second, .val (.long ((4 : Int64) * (i0.toInt64))), .second, .val (.long fv), .second, .val (.int (1 : Int32))] [])) (fun _ k => XS.istore X8.here hx rfl (hb hby at_84) rfl (l' := #[.val (.int i0), .val (.long i1), .second, .val (.int i2), .val (.int i3), .val (.int i4), .val (.ref r_1), .val (.int (0 : Int32)), .val (.ref b3), .val (.long (i0.toInt64)), .second, .val (.long ((4 : Int64) * (i0.toInt64))), .second, .val (.long fv), .second, .val (.int (1 : Int32))]) rfl k) ?_
        refine Goes.step (B := T8.setTop (mkF m 88 #[.val (.int i0), .val (.long i1), .second, .val (.int i2), .val (.int i3), .val (.int i4), .val (.ref r_1), .val (.int (0 : Int32)), .val (.ref b3), .val (.long (i0.toInt64)), .second, .val (.long ((4 : Int64) * (i0.toInt64))), .second, .val (.long fv), .second, .val (.int (1 : Int32))] [(.ref b3)])) (fun _ k => XS.aload X8.here hx rfl (hb hby at_86) rfl rfl k) ?_
        refine Goes.step (B := T8.setTop (mkF m 90 #[.val (.int i0), .val (.long i1), .second, .val (.int i2), .val (.int i3), .val (.int i4), .val (.ref r_1), .val (.int (0 : Int32)), .val (.ref b3), .val (.long (i0.toInt64)), .second, .val (.long ((4 : Int64) * (i0.toInt64))), .second, .val (.long fv), .second, .val (.int (1 : Int32))] [(.long fv), (.ref b3)])) (fun _ k => XS.lload X8.here hx rfl (hb hby at_88) rfl k) ?_
        obtain ⟨cq15, kq15, qa15, qb15, qc15⟩ := isOf hZ rfl Ex8
        obtain ⟨_, _, ⟨T15, L15, k15, n15⟩, -, X15, ⟨Lc15, hQ15, l15, y15, z15⟩, st15⟩ := X8.virtualBack hx (y := (⟨"com/example/roundkeeper/roundkeeper/rulesets/sealedorders/Weapon$Shot", "reaches", "(J)Z"⟩ : MethodName)) (z := (⟨"com/example/roundkeeper/roundkeeper/rulesets/sealedorders/Weapon$Shot", "reaches", "(J)Z"⟩ : MethodName)) hown (mvT hZ (hw _ (List.mem_of_getElem? (i := 27) rfl))) (mvT hZ (hw _ (List.mem_of_getElem? (i := 28) rfl))) (notFace_of_selects (args := #[]) (mvT hZ (hw _ (List.mem_of_getElem? (i := 30) rfl)))) (mvT hZ (hw _ (List.mem_of_getElem? (i := 30) rfl))) (mvT hZ (hw _ (List.mem_of_getElem? (i := 29) rfl))) (by decide) (backOf (W := 0) (rmr1 l Z a0 hw [] b3 fv i0 T8.heap n0 O_8 hc76_12 Fc8_range) hZ (hw _ (List.mem_of_getElem? (i := 31) rfl)) (hw _ (List.mem_of_getElem? (i := 9) rfl)) (by decide) (by decide)) qa15 qc15 (g := (mkF m 90 #[.val (.int i0), .val (.long i1), .second, .val (.int i2), .val (.int i3), .val (.int i4), .val (.ref r_1), .val (.int (0 : Int32)), .val (.ref b3), .val (.long (i0.toInt64)), .second, .val (.long ((4 : Int64) * (i0.toInt64))), .second, .val (.long fv), .second, .val (.int (1 : Int32))] [(.long fv), (.ref b3)])) rfl (by rw [hml]; rfl) (Steps.refl _) (argsL := [(.long fv)]) (rest := []) (lenOf pd_3 rfl) rfl (by show 2 * 0 + _ ≤ _; exact Nat.le_of_eq rfl) (hb hby at_90) (fun _ _ => ⟨rfl, rfl, (by decide : 1 + 0 ≤ _), (by decide : 3 + 0 ≤ _)⟩)
        dsimp only [Pt.U, Pt.locs, Pt.cells, Pt.slots] at X15 l15 y15 z15 st15 hQ15
        subst l15 y15 z15
        obtain ⟨rfl, Nq15, eh15⟩ := hQ15
        have N15 := Fr.app N8 Nq15
        refine Goes.via (B := T15.setTop (mkF m 93 #[.val (.int i0), .val (.long i1), .second, .val (.int i2), .val (.int i3), .val (.int i4), .val (.ref r_1), .val (.int (0 : Int32)), .val (.ref b3), .val (.long (i0.toInt64)), .second, .val (.long ((4 : Int64) * (i0.toInt64))), .second, .val (.long fv), .second, .val (.int (1 : Int32))] [(.int (1 : Int32))])) st15 ?_
        refine Goes.step (B := T15.setTop (mkF m 95 #[.val (.int i0), .val (.long i1), .second, .val (.int i2), .val (.int i3), .val (.int i4), .val (.ref r_1), .val (.int (0 : Int32)), .val (.ref b3), .val (.long (i0.toInt64)), .second, .val (.long ((4 : Int64) * (i0.toInt64))), .second, .val (.long fv), .second, .val (.int (1 : Int32))] [(.int (1 : Int32)), (.int (1 : Int32))])) (fun _ k => XS.iload X15.here hx rfl (hb hby at_93) rfl k) ?_
        refine Goes.step (B := T15.setTop (mkF m 98 #[.val (.int i0), .val (.long i1), .second, .val (.int i2), .val (.int i3), .val (.int i4), .val (.ref r_1), .val (.int (0 : Int32)), .val (.ref b3), .val (.long (i0.toInt64)), .second, .val (.long ((4 : Int64) * (i0.toInt64))), .second, .val (.long fv), .second, .val (.int (1 : Int32))] [])) (fun _ k => XS.icmpNo X15.here hx rfl (hb hby at_95) rfl (teq (by decide)).2 k) ?_
        refine Goes.step (B := T15.setTop (mkF m 99 #[.val (.int i0), .val (.long i1), .second, .val (.int i2), .val (.int i3), .val (.int i4), .val (.ref r_1), .val (.int (0 : Int32)), .val (.ref b3), .val (.long (i0.toInt64)), .second, .val (.long ((4 : Int64) * (i0.toInt64))), .second, .val (.long fv), .second, .val (.int (1 : Int32))] [(.int (1 : Int32))])) (fun _ k => XS.iconst X15.here hx rfl (hb hby at_98) k) ?_
        refine Goes.step (B := T15.setTop (mkF m 103 #[.val (.int i0), .val (.long i1), .second, .val (.int i2), .val (.int i3), .val (.int i4), .val (.ref r_1), .val (.int (0 : Int32)), .val (.ref b3), .val (.long (i0.toInt64)), .second, .val (.long ((4 : Int64) * (i0.toInt64))), .second, .val (.long fv), .second, .val (.int (1 : Int32))] [(.int (1 : Int32))])) (fun _ k => XS.goto X15.here hx rfl (pc0 := 99) (pc' := 103) rfl (hb hby at_99) (by decide) (by decide) k) ?_
        exact Goes.retN X15 hx eh15 (t := .boolean) Bd.returns (by simp) hlk (hb hby at_103) (by decide) (by decide) (⟨rfl, N15⟩)
  · refine Goes.step (B := T1.setTop (mkF m 13 #[.val (.int i0), .val (.long i1), .second, .val (.int i2), .val (.int i3), .val (.int i4), .val (.ref r_1), .unset, .unset, .unset, .unset, .unset, .unset, .unset, .unset, .unset] [])) (fun _ k => XS.ifNo X1.here hx rfl (hb hby at_10) rfl ((if0 _ _).trans (feq hc10_1).1) k) ?_
    refine Goes.step (B := T1.setTop (mkF m 14 #[.val (.int i0), .val (.long i1), .second, .val (.int i2), .val (.int i3), .val (.int i4), .val (.ref r_1), .unset, .unset, .unset, .unset, .unset, .unset, .unset, .unset, .unset] [(.int (1 : Int32))])) (fun _ k => XS.iconst X1.here hx rfl (hb hby at_13) k) ?_
    refine Goes.step (B := T1.setTop (mkF m 18 #[.val (.int i0), .val (.long i1), .second, .val (.int i2), .val (.int i3), .val (.int i4), .val (.ref r_1), .unset, .unset, .unset, .unset, .unset, .unset, .unset, .unset, .unset] [(.int (1 : Int32))])) (fun _ k => XS.goto X1.here hx rfl (pc0 := 14) (pc' := 18) rfl (hb hby at_14) (by decide) (by decide) k) ?_
    refine Goes.step (B := T1.setTop (mkF m 20 #[.val (.int i0), .val (.long i1), .second, .val (.int i2), .val (.int i3), .val (.int i4), .val (.ref r_1), .val (.int (1 : Int32)), .unset, .unset, .unset, .unset, .unset, .unset, .unset, .unset] [])) (fun _ k => XS.istore X1.here hx rfl (hb hby at_18) rfl (l' := #[.val (.int i0), .val (.long i1), .second, .val (.int i2), .val (.int i3), .val (.int i4), .val (.ref r_1), .val (.int (1 : Int32)), .unset, .unset, .unset, .unset, .unset, .unset, .unset, .unset]) rfl k) ?_
    obtain ⟨T16, h16, X16, e16, E16, A16, D16, -, st16⟩ := newO X1 hx hZ hown (hw _ (List.mem_of_getElem? (i := 7) rfl)) (hw _ (List.mem_of_getElem? (i := 8) rfl)) (hw _ (List.mem_of_getElem? (i := 9) rfl)) eh1 (g := (mkF m 20 #[.val (.int i0), .val (.long i1), .second, .val (.int i2), .val (.int i3), .val (.int i4), .val (.ref r_1), .val (.int (1 : Int32)), .unset, .unset, .unset, .unset, .unset, .unset, .unset, .unset] [])) rfl (hb hby at_20) (by decide) (by decide)
    obtain ⟨b16, g16⟩ : ∃ z, z = h0.size := ⟨_, rfl⟩
    rw [← g16] at A16 D16 st16
    have f17 := E_COMPLEX_RELOAD.ext O0.2
    have ne_a_COMPLEX_RELOAD_b16 : a_COMPLEX_RELOAD ≠ b16 := Nat.ne_of_lt (Nat.lt_of_lt_of_le f17.lt (Nat.le_of_eq g16.symm))
    have f18 := E_QUICK_RELOAD.ext O0.2
    have ne_a_QUICK_RELOAD_b16 : a_QUICK_RELOAD ≠ b16 := Nat.ne_of_lt (Nat.lt_of_lt_of_le f18.lt (Nat.le_of_eq g16.symm))
    have f19 := E_THROWN.ext O0.2
    have ne_a_THROWN_b16 : a_THROWN ≠ b16 := Nat.ne_of_lt (Nat.lt_of_lt_of_le f19.lt (Nat.le_of_eq g16.symm))
    have f20 := E_NONE.ext O0.2
    have ne_a_NONE_b16 : a_NONE ≠ b16 := Nat.ne_of_lt (Nat.lt_of_lt_of_le f20.lt (Nat.le_of_eq g16.symm))
    have g_b16 : n0 ≤ b16 := Nat.le_trans (own_z O0) (Nat.le_of_eq g16.symm)
    have O_16 := O0.ext E16
    have F16_range : Fld Z h16 b16 "com/example/roundkeeper/roundkeeper/rulesets/sealedorders/Weapon$Shot" "range" "I" (.int (0 : Int32)) := D16 (Or.inr (hw _ (List.mem_of_getElem? (i := 22) rfl))) (ty := .int) (by decide)
    have F16_loading : Fld Z h16 b16 "com/example/roundkeeper/roundkeeper/rulesets/sealedorders/Weapon$Shot" "loading" "Lcom/example/roundkeeper/roundkeeper/rulesets/sealedorders/Weapon$Loading;" .null := D16 (Or.inr (hw _ (List.mem_of_getElem? (i := 24) rfl))) (ty := (.object "com/example/roundkeeper/roundkeeper/rulesets/sealedorders/Weapon$Loading")) (by decide)
    have F16_wounding : Fld Z h16 b16 "com/example/roundkeeper/roundkeeper/rulesets/sealedorders/Weapon$Shot" "wounding" "Z" (.int (0 : Int32)) := D16 (Or.inr (hw _ (List.mem_of_getElem? (i := 26) rfl))) (ty := .boolean) (by decide)
    refine Goes.step (B := T16.setTop (mkF m 23 #[.val (.int i0), .val (.long i1), .second, .val (.int i2), .val (.int i3), .val (.int i4), .val (.ref r_1), .val (.int (1 : Int32)), .unset, .unset, .unset, .unset, .unset, .unset, .unset, .unset] [(.ref b16)])) st16 ?_
    refine Goes.step (B := T16.setTop (mkF m 24 #[.val (.int i0), .val (.long i1), .second, .val (.int i2), .val (.int i3), .val (.int i4), .val (.ref r_1), .val (.int (1 : Int32)), .unset, .unset, .unset, .unset, .unset, .unset, .unset, .unset] [(.ref b16), (.ref b16)])) (fun _ k => XS.dup X16.here hx rfl (hb hby at_23) rfl rfl k) ?_
    refine Goes.step (B := T16.setTop (mkF m 25 #[.val (.int i0), .val (.long i1), .second, .val (.int i2), .val (.int i3), .val (.int i4), .val (.ref r_1), .val (.int (1 : Int32)), .unset, .unset, .unset, .unset, .unset, .unset, .unset, .unset] [(.int i0), (.ref b16), (.ref b16)])) (fun _ k => XS.iloadN X16.here hx rfl (hb hby at_24) rfl k) ?_
    refine Goes.step (B := T16.setTop (mkF m 27 #[.val (.int i0), .val (.long i1), .second, .val (.int i2), .val (.int i3), .val (.int i4), .val (.ref r_1), .val (.int (1 : Int32)), .unset, .unset, .unset, .unset, .unset, .unset, .unset, .unset] [(.ref r_1), (.int i0), (.ref b16), (.ref b16)])) (fun _ k => XS.aload X16.here hx rfl (hb hby at_25) rfl rfl k) ?_
    refine Goes.step (B := T16.setTop (mkF m 29 #[.val (.int i0), .val (.long i1), .second, .val (.int i2), .val (.int i3), .val (.int i4), .val (.ref r_1), .val (.int (1 : Int32)), .unset, .unset, .unset, .unset, .unset, .unset, .unset, .unset] [(.int (1 : Int32)), (.ref r_1), (.int i0), (.ref b16), (.ref b16)])) (fun _ k => XS.iload X16.here hx rfl (hb hby at_27) rfl k) ?_
    obtain ⟨_, _, ⟨T21, L21, k21, n21⟩, -, X21, ⟨Lc21, hQ21, l21, y21, z21⟩, st21⟩ := X16.specialBack hx (y := (⟨"com/example/roundkeeper/roundkeeper/rulesets/sealedorders/Weapon$Shot", "<init>", "(ILcom/example/roundkeeper/roundkeeper/rulesets/sealedorders/Weapon$Loading;Z)V"⟩ : MethodName)) rfl hown (mvT hZ (hw _ (List.mem_of_getElem? (i := 10) rfl))) (mvT hZ (hw _ (List.mem_of_getElem? (i := 11) rfl))) (mvT hZ (hw _ (List.mem_of_getElem? (i := 12) rfl))) (by decide) (backOf (W := 1) (rm2 l Z a0 hw [] b16 i0 r_1 (1 : Int32) h16 n0 O_16 A16 g_b16 F16_range F16_loading F16_wounding) hZ (hw _ (List.mem_of_getElem? (i := 12) rfl)) (hw _ (List.mem_of_getElem? (i := 9) rfl)) (by decide) (by decide)) (g := (mkF m 29 #[.val (.int i0), .val (.long i1), .second, .val (.int i2), .val (.int i3), .val (.int i4), .val (.ref r_1), .val (.int (1 : Int32)), .unset, .unset, .unset, .unset, .unset, .unset, .unset, .unset] [(.int (1 : Int32)), (.ref r_1), (.int i0), (.ref b16), (.ref b16)])) rfl (by rw [hml]; rfl) (Steps.refl _) (a := b16) (argsL := [(.int i0), (.ref r_1), (.int (1 : Int32))]) (rest := [(.ref b16)]) (lenOf pd_2 rfl) rfl (by show 2 * 0 + _ ≤ _; exact Nat.le_of_eq rfl) (hb hby at_29) (fun _ _ => ⟨rfl, e16, (by decide : 1 + 0 ≤ _), (by decide : 3 + 0 ≤ _)⟩)
    dsimp only [Pt.U, Pt.locs, Pt.cells, Pt.slots] at X21 l21 y21 z21 st21 hQ21
    subst l21 y21 z21
    obtain ⟨rfl, Nq21, Kp21, Ex21, Fc21_range, Fc21_loading, Fc21_wounding⟩ := hQ21
    have O_21 := O_16.keep Kp21 (allS g_b16 all0)
    have N21 := Fr.app N1 Nq21
    refine Goes.via (B := T21.setTop (mkF m 32 #[.val (.int i0), .val (.long i1), .second, .val (.int i2), .val (.int i3), .val (.int i4), .val (.ref r_1), .val (.int (1 : Int32)), .unset, .unset, .unset, .unset, .unset, .unset, .unset, .unset] [(.ref b16)])) st21 ?_
    refine Goes.step (B := T21.setTop (mkF m 34 #[.val (.int i0), .val (.long i1), .second, .val (.int i2), .val (.int i3), .val (.int i4), .val (.ref r_1), .val (.int (1 : Int32)), .val (.ref b16), .unset, .unset, .unset, .unset, .unset, .unset, .unset] [])) (fun _ k => XS.astore X21.here hx rfl (hb hby at_32) rfl rfl (l' := #[.val (.int i0), .val (.long i1), .second, .val (.int i2), .val (.int i3), .val (.int i4), .val (.ref r_1), .val (.int (1 : Int32)), .val (.ref b16), .unset, .unset, .unset, .unset, .unset, .unset, .unset]) rfl k) ?_
    refine Goes.step (B := T21.setTop (mkF m 35 #[.val (.int i0), .val (.long i1), .second, .val (.int i2), .val (.int i3), .val (.int i4), .val (.ref r_1), .val (.int (1 : Int32)), .val (.ref b16), .unset, .unset, .unset, .unset, .unset, .unset, .unset] [(.int i0)])) (fun _ k => XS.iloadN X21.here hx rfl (hb hby at_34) rfl k) ?_
    refine Goes.step (B := T21.setTop (mkF m 36 #[.val (.int i0), .val (.long i1), .second, .val (.int i2), .val (.int i3), .val (.int i4), .val (.ref r_1), .val (.int (1 : Int32)), .val (.ref b16), .unset, .unset, .unset, .unset, .unset, .unset, .unset] [(.long (i0.toInt64))])) (fun _ k => XS.i2l X21.here hx rfl (hb hby at_35) rfl k) ?_
    refine Goes.step (B := T21.setTop (mkF m 38 #[.val (.int i0), .val (.long i1), .second, .val (.int i2), .val (.int i3), .val (.int i4), .val (.ref r_1), .val (.int (1 : Int32)), .val (.ref b16), .val (.long (i0.toInt64)), .second, .unset, .unset, .unset, .unset, .unset] [])) (fun _ k => XS.lstore X21.here hx rfl (hb hby at_36) rfl (l' := #[.val (.int i0), .val (.long i1), .second, .val (.int i2), .val (.int i3), .val (.int i4), .val (.ref r_1), .val (.int (1 : Int32)), .val (.ref b16), .val (.long (i0.toInt64)), .second, .unset, .unset, .unset, .unset, .unset]) rfl k) ?_
    refine Goes.step (B := T21.setTop (mkF m 40 #[.val (.int i0), .val (.long i1), .second, .val (.int i2), .val (.int i3), .val (.int i4), .val (.ref r_1), .val (.int (1 : Int32)), .val (.ref b16), .val (.long (i0.toInt64)), .second, .unset, .unset, .unset, .unset, .unset] [(.long (i0.toInt64))])) (fun _ k => XS.lload X21.here hx rfl (hb hby at_38) rfl k) ?_
    refine Goes.step (B := T21.setTop (mkF m 42 #[.val (.int i0), .val (.long i1), .second, .val (.int i2), .val (.int i3), .val (.int i4), .val (.ref r_1), .val (.int (1 : Int32)), .val (.ref b16), .val (.long (i0.toInt64)), .second, .unset, .unset, .unset, .unset, .unset] [(.long (i0.toInt64)), (.long (i0.toInt64))])) (fun _ k => XS.lload X21.here hx rfl (hb hby at_40) rfl k) ?_
    refine Goes.step (B := T21.setTop (mkF m 43 #[.val (.int i0), .val (.long i1), .second, .val (.int i2), .val (.int i3), .val (.int i4), .val (.ref r_1), .val (.int (1 : Int32)), .val (.ref b16), .val (.long (i0.toInt64)), .second, .unset, .unset, .unset, .unset, .unset] [(.long ((i0.toInt64) + (i0.toInt64)))])) (fun _ k => XS.ladd X21.here hx rfl (hb hby at_42) rfl k) ?_
    refine Goes.step (B := T21.setTop (mkF m 45 #[.val (.int i0), .val (.long i1), .second, .val (.int i2), .val (.int i3), .val (.int i4), .val (.ref r_1), .val (.int (1 : Int32)), .val (.ref b16), .val (.long (i0.toInt64)), .second, .unset, .unset, .unset, .unset, .unset] [(.long (i0.toInt64)), (.long ((i0.toInt64) + (i0.toInt64)))])) (fun _ k => XS.lload X21.here hx rfl (hb hby at_43) rfl k) ?_
    refine Goes.step (B := T21.setTop (mkF m 46 #[.val (.int i0), .val (.long i1), .second, .val (.int i2), .val (.int i3), .val (.int i4), .val (.ref r_1), .val (.int (1 : Int32)), .val (.ref b16), .val (.long (i0.toInt64)), .second, .unset, .unset, .unset, .unset, .unset] [(.long (((i0.toInt64) + (i0.toInt64)) + (i0.toInt64)))])) (fun _ k => XS.ladd X21.here hx rfl (hb hby at_45) rfl k) ?_
    refine Goes.step (B := T21.setTop (mkF m 48 #[.val (.int i0), .val (.long i1), .second, .val (.int i2), .val (.int i3), .val (.int i4), .val (.ref r_1), .val (.int (1 : Int32)), .val (.ref b16), .val (.long (i0.toInt64)), .second, .unset, .unset, .unset, .unset, .unset] [(.long (i0.toInt64)), (.long (((i0.toInt64) + (i0.toInt64)) + (i0.toInt64)))])) (fun _ k => XS.lload X21.here hx rfl (hb hby at_46) rfl k) ?_
    refine Goes.step (B := T21.setTop (mkF m 49 #[.val (.int i0), .val (.long i1), .second, .val (.int i2), .val (.int i3), .val (.int i4), .val (.ref r_1), .val (.int (1 : Int32)), .val (.ref b16), .val (.long (i0.toInt64)), .second, .unset, .unset, .unset, .unset, .unset] [(.long ((((i0.toInt64) + (i0.toInt64)) + (i0.toInt64)) + (i0.toInt64)))])) (fun _ k => XS.ladd X21.here hx rfl (hb hby at_48) rfl k) ?_
    rw [own_4]
    refine Goes.step (B := T21.setTop (mkF m 51 #[.val (.int i0), .val (.long i1), .second, .val (.int i2), .val (.int i3), .val (.int i4), .val (.ref r_1), .val (.int (1 : Int32)), .val (.ref b16), .val (.long (i0.toInt64)), .second, .val (.long ((4 : Int64) * (i0.toInt64))), .second, .unset, .unset, .unset] [])) (fun _ k => XS.lstore X21.here hx rfl (hb hby at_49) rfl (l' := #[.val (.int i0), .val (.long i1), .second, .val (.int i2), .val (.int i3), .val (.int i4), .val (.ref r_1), .val (.int (1 : Int32)), .val (.ref b16), .val (.long (i0.toInt64)), .second, .val (.long ((4 : Int64) * (i0.toInt64))), .second, .unset, .unset, .unset]) rfl k) ?_
    refine Goes.step (B := T21.setTop (mkF m 52 #[.val (.int i0), .val (.long i1), .second, .val (.int i2), .val (.int i3), .val (.int i4), .val (.ref r_1), .val (.int (1 : Int32)), .val (.ref b16), .val (.long (i0.toInt64)), .second, .val (.long ((4 : Int64) * (i0.toInt64))), .second, .unset, .unset, .unset] [(.int i2)])) (fun _ k => XS.iloadN X21.here hx rfl (hb hby at_51) rfl k) ?_
    refine Goes.step (B := T21.setTop (mkF m 53 #[.val (.int i0), .val (.long i1), .second, .val (.int i2), .val (.int i3), .val (.int i4), .val (.ref r_1), .val (.int (1 : Int32)), .val (.ref b16), .val (.long (i0.toInt64)), .second, .val (.long ((4 : Int64) * (i0.toInt64))), .second, .unset, .unset, .unset] [(.int (1 : Int32)), (.int i2)])) (fun _ k => XS.iconst X21.here hx rfl (hb hby at_52) k) ?_
    refine Goes.step (B := T21.setTop (mkF m 54 #[.val (.int i0), .val (.long i1), .second, .val (.int i2), .val (.int i3), .val (.int i4), .val (.ref r_1), .val (.int (1 : Int32)), .val (.ref b16), .val (.long (i0.toInt64)), .second, .val (.long ((4 : Int64) * (i0.toInt64))), .second, .unset, .unset, .unset] [(.int (i2 &&& (1 : Int32)))])) (fun _ k => XS.iand X21.here hx rfl (hb hby at_53) rfl k) ?_
    by_cases hc54_21 : (i2 &&& (1 : Int32)) = (0 : Int32)
    · refine Goes.step (B := T21.setTop (mkF m 68 #[.val (.int i0), .val (.long i1), .second, .val (.int i2), .val (.int i3), .val (.int i4), .val (.ref r_1), .val (.int (1 : Int32)), .val (.ref b16), .val (.long (i0.toInt64)), .second, .val (.long ((4 : Int64) * (i0.toInt64))), .second, .unset, .unset, .unset] [])) (fun _ k => XS.ifYes X21.here hx rfl (pc0 := 54) (pc' := 68) rfl (hb hby at_54) rfl ((if0 _ _).trans (teq hc54_21).1) (by decide) (by decide) k) ?_
      refine Goes.step (B := T21.setTop (mkF m 69 #[.val (.int i0), .val (.long i1), .second, .val (.int i2), .val (.int i3), .val (.int i4), .val (.ref r_1), .val (.int (1 : Int32)), .val (.ref b16), .val (.long (i0.toInt64)), .second, .val (.long ((4 : Int64) * (i0.toInt64))), .second, .unset, .unset, .unset] [(.long i1)])) (fun _ k => XS.lloadN X21.here hx rfl (hb hby at_68) rfl k) ?_
      obtain ⟨fv, hfv⟩ : ∃ z, z = i1 := ⟨_, rfl⟩
      rw [← hfv]
      refine Goes.step (B := T21.setTop (mkF m 71 #[.val (.int i0), .val (.long fv), .second, .val (.int i2), .val (.int i3), .val (.int i4), .val (.ref r_1), .val (.int (1 : Int32)), .val (.ref b16), .val (.long (i0.toInt64)), .second, .val (.long ((4 : Int64) * (i0.toInt64))), .second, .val (.long fv), .second, .unset] [])) (fun _ k => XS.lstore X21.here hx rfl (hb hby at_69) rfl (l' := #[.val (.int i0), .val (.long fv), .second, .val (.int i2), .val (.int i3), .val (.int i4), .val (.ref r_1), .val (.int (1 : Int32)), .val (.ref b16), .val (.long (i0.toInt64)), .second, .val (.long ((4 : Int64) * (i0.toInt64))), .second, .val (.long fv), .second, .unset]) rfl k) ?_
      refine Goes.step (B := T21.setTop (mkF m 73 #[.val (.int i0), .val (.long fv), .second, .val (.int i2), .val (.int i3), .val (.int i4), .val (.ref r_1), .val (.int (1 : Int32)), .val (.ref b16), .val (.long (i0.toInt64)), .second, .val (.long ((4 : Int64) * (i0.toInt64))), .second, .val (.long fv), .second, .unset] [(.long fv)])) (fun _ k => XS.lload X21.here hx rfl (hb hby at_71) rfl k) ?_
      refine Goes.step (B := T21.setTop (mkF m 75 #[.val (.int i0), .val (.long fv), .second, .val (.int i2), .val (.int i3), .val (.int i4), .val (.ref r_1), .val (.int (1 : Int32)), .val (.ref b16), .val (.long (i0.toInt64)), .second, .val (.long ((4 : Int64) * (i0.toInt64))), .second, .val (.long fv), .second, .unset] [(.long ((4 : Int64) * (i0.toInt64))), (.long fv)])) (fun _ k => XS.lload X21.here hx rfl (hb hby at_73) rfl k) ?_
      refine Goes.step (B := T21.setTop (mkF m 76 #[.val (.int i0), .val (.long fv), .second, .val (.int i2), .val (.int i3), .val (.int i4), .val (.ref r_1), .val (.int (1 : Int32)), .val (.ref b16), .val (.long (i0.toInt64)), .second, .val (.long ((4 : Int64) * (i0.toInt64))), .second, .val (.long fv), .second, .unset] [(.int (lcmpW fv ((4 : Int64) * (i0.toInt64))))])) (fun _ k => XS.lcmp X21.here hx rfl (hb hby at_75) rfl k) ?_
      by_cases hc76_22 : ((4 : Int64) * (i0.toInt64)) < fv
      · refine Goes.step (B := T21.setTop (mkF m 83 #[.val (.int i0), .val (.long fv), .second, .val (.int i2), .val (.int i3), .val (.int i4), .val (.ref r_1), .val (.int (1 : Int32)), .val (.ref b16), .val (.long (i0.toInt64)), .second, .val (.long ((4 : Int64) * (i0.toInt64))), .second, .val (.long fv), .second, .unset] [])) (fun _ k => XS.ifYes X21.here hx rfl (pc0 := 76) (pc' := 83) rfl (hb hby at_76) rfl ((if0 _ _).trans (tlt ((lw_gt _ _).mpr hc76_22)).2.2.1) (by decide) (by decide) k) ?_
        refine Goes.step (B := T21.setTop (mkF m 84 #[.val (.int i0), .val (.long fv), .second, .val (.int i2), .val (.int i3), .val (.int i4), .val (.ref r_1), .val (.int (1 : Int32)), .val (.ref b16), .val (.long (i0.toInt64)), .second, .val (.long ((4 : Int64) * (i0.toInt64))), .second, .val (.long fv), .second, .unset] [(.int (0 : Int32))])) (fun _ k => XS.iconst X21.here hx rfl (hb hby at_83) k) ?_
        refine Goes.step (B := T21.setTop (mkF m 86 #[.val (.int i0), .val (.long fv), .second, .val (.int i2), .val (.int i3), .val (.int i4), .val (.ref r_1), .val (.int (1 : Int32)), .val (.ref b16), .val (.long (i0.toInt64)), .second, .val (.long ((4 : Int64) * (i0.toInt64))), .second, .val (.long fv), .second, .val (.int (0 : Int32))] [])) (fun _ k => XS.istore X21.here hx rfl (hb hby at_84) rfl (l' := #[.val (.int i0), .val (.long fv), .second, .val (.int i2), .val (.int i3), .val (.int i4), .val (.ref r_1), .val (.int (1 : Int32)), .val (.ref b16), .val (.long (i0.toInt64)), .second, .val (.long ((4 : Int64) * (i0.toInt64))), .second, .val (.long fv), .second, .val (.int (0 : Int32))]) rfl k) ?_
        refine Goes.step (B := T21.setTop (mkF m 88 #[.val (.int i0), .val (.long fv), .second, .val (.int i2), .val (.int i3), .val (.int i4), .val (.ref r_1), .val (.int (1 : Int32)), .val (.ref b16), .val (.long (i0.toInt64)), .second, .val (.long ((4 : Int64) * (i0.toInt64))), .second, .val (.long fv), .second, .val (.int (0 : Int32))] [(.ref b16)])) (fun _ k => XS.aload X21.here hx rfl (hb hby at_86) rfl rfl k) ?_
        refine Goes.step (B := T21.setTop (mkF m 90 #[.val (.int i0), .val (.long fv), .second, .val (.int i2), .val (.int i3), .val (.int i4), .val (.ref r_1), .val (.int (1 : Int32)), .val (.ref b16), .val (.long (i0.toInt64)), .second, .val (.long ((4 : Int64) * (i0.toInt64))), .second, .val (.long fv), .second, .val (.int (0 : Int32))] [(.long fv), (.ref b16)])) (fun _ k => XS.lload X21.here hx rfl (hb hby at_88) rfl k) ?_
        obtain ⟨cq24, kq24, qa24, qb24, qc24⟩ := isOf hZ rfl Ex21
        obtain ⟨_, _, ⟨T24, L24, k24, n24⟩, -, X24, ⟨Lc24, hQ24, l24, y24, z24⟩, st24⟩ := X21.virtualBack hx (y := (⟨"com/example/roundkeeper/roundkeeper/rulesets/sealedorders/Weapon$Shot", "reaches", "(J)Z"⟩ : MethodName)) (z := (⟨"com/example/roundkeeper/roundkeeper/rulesets/sealedorders/Weapon$Shot", "reaches", "(J)Z"⟩ : MethodName)) hown (mvT hZ (hw _ (List.mem_of_getElem? (i := 27) rfl))) (mvT hZ (hw _ (List.mem_of_getElem? (i := 28) rfl))) (notFace_of_selects (args := #[]) (mvT hZ (hw _ (List.mem_of_getElem? (i := 30) rfl)))) (mvT hZ (hw _ (List.mem_of_getElem? (i := 30) rfl))) (mvT hZ (hw _ (List.mem_of_getElem? (i := 29) rfl))) (by decide) (backOf (W := 0) (rmr0 l Z a0 hw [] b16 fv i0 T21.heap n0 O_21 hc76_22 Fc21_range) hZ (hw _ (List.mem_of_getElem? (i := 31) rfl)) (hw _ (List.mem_of_getElem? (i := 9) rfl)) (by decide) (by decide)) qa24 qc24 (g := (mkF m 90 #[.val (.int i0), .val (.long fv), .second, .val (.int i2), .val (.int i3), .val (.int i4), .val (.ref r_1), .val (.int (1 : Int32)), .val (.ref b16), .val (.long (i0.toInt64)), .second, .val (.long ((4 : Int64) * (i0.toInt64))), .second, .val (.long fv), .second, .val (.int (0 : Int32))] [(.long fv), (.ref b16)])) rfl (by rw [hml]; rfl) (Steps.refl _) (argsL := [(.long fv)]) (rest := []) (lenOf pd_3 rfl) rfl (by show 2 * 0 + _ ≤ _; exact Nat.le_of_eq rfl) (hb hby at_90) (fun _ _ => ⟨rfl, rfl, (by decide : 1 + 0 ≤ _), (by decide : 3 + 0 ≤ _)⟩)
        dsimp only [Pt.U, Pt.locs, Pt.cells, Pt.slots] at X24 l24 y24 z24 st24 hQ24
        subst l24 y24 z24
        obtain ⟨rfl, Nq24, eh24⟩ := hQ24
        have N24 := Fr.app N21 Nq24
        refine Goes.via (B := T24.setTop (mkF m 93 #[.val (.int i0), .val (.long fv), .second, .val (.int i2), .val (.int i3), .val (.int i4), .val (.ref r_1), .val (.int (1 : Int32)), .val (.ref b16), .val (.long (i0.toInt64)), .second, .val (.long ((4 : Int64) * (i0.toInt64))), .second, .val (.long fv), .second, .val (.int (0 : Int32))] [(.int (0 : Int32))])) st24 ?_
        refine Goes.step (B := T24.setTop (mkF m 95 #[.val (.int i0), .val (.long fv), .second, .val (.int i2), .val (.int i3), .val (.int i4), .val (.ref r_1), .val (.int (1 : Int32)), .val (.ref b16), .val (.long (i0.toInt64)), .second, .val (.long ((4 : Int64) * (i0.toInt64))), .second, .val (.long fv), .second, .val (.int (0 : Int32))] [(.int (0 : Int32)), (.int (0 : Int32))])) (fun _ k => XS.iload X24.here hx rfl (hb hby at_93) rfl k) ?_
        refine Goes.step (B := T24.setTop (mkF m 98 #[.val (.int i0), .val (.long fv), .second, .val (.int i2), .val (.int i3), .val (.int i4), .val (.ref r_1), .val (.int (1 : Int32)), .val (.ref b16), .val (.long (i0.toInt64)), .second, .val (.long ((4 : Int64) * (i0.toInt64))), .second, .val (.long fv), .second, .val (.int (0 : Int32))] [])) (fun _ k => XS.icmpNo X24.here hx rfl (hb hby at_95) rfl (teq (by decide)).2 k) ?_
        refine Goes.step (B := T24.setTop (mkF m 99 #[.val (.int i0), .val (.long fv), .second, .val (.int i2), .val (.int i3), .val (.int i4), .val (.ref r_1), .val (.int (1 : Int32)), .val (.ref b16), .val (.long (i0.toInt64)), .second, .val (.long ((4 : Int64) * (i0.toInt64))), .second, .val (.long fv), .second, .val (.int (0 : Int32))] [(.int (1 : Int32))])) (fun _ k => XS.iconst X24.here hx rfl (hb hby at_98) k) ?_
        refine Goes.step (B := T24.setTop (mkF m 103 #[.val (.int i0), .val (.long fv), .second, .val (.int i2), .val (.int i3), .val (.int i4), .val (.ref r_1), .val (.int (1 : Int32)), .val (.ref b16), .val (.long (i0.toInt64)), .second, .val (.long ((4 : Int64) * (i0.toInt64))), .second, .val (.long fv), .second, .val (.int (0 : Int32))] [(.int (1 : Int32))])) (fun _ k => XS.goto X24.here hx rfl (pc0 := 99) (pc' := 103) rfl (hb hby at_99) (by decide) (by decide) k) ?_
        exact Goes.retN X24 hx eh24 (t := .boolean) Bd.returns (by simp) hlk (hb hby at_103) (by decide) (by decide) (⟨rfl, N24⟩)
      · refine Goes.step (B := T21.setTop (mkF m 79 #[.val (.int i0), .val (.long fv), .second, .val (.int i2), .val (.int i3), .val (.int i4), .val (.ref r_1), .val (.int (1 : Int32)), .val (.ref b16), .val (.long (i0.toInt64)), .second, .val (.long ((4 : Int64) * (i0.toInt64))), .second, .val (.long fv), .second, .unset] [])) (fun _ k => XS.ifNo X21.here hx rfl (hb hby at_76) rfl ((if0 _ _).trans (flt (fun q => hc76_22 ((lw_gt _ _).mp q))).2.2.1) k) ?_
        refine Goes.step (B := T21.setTop (mkF m 80 #[.val (.int i0), .val (.long fv), .second, .val (.int i2), .val (.int i3), .val (.int i4), .val (.ref r_1), .val (.int (1 : Int32)), .val (.ref b16), .val (.long (i0.toInt64)), .second, .val (.long ((4 : Int64) * (i0.toInt64))), .second, .val (.long fv), .second, .unset] [(.int (1 : Int32))])) (fun _ k => XS.iconst X21.here hx rfl (hb hby at_79) k) ?_
        refine Goes.step (B := T21.setTop (mkF m 84 #[.val (.int i0), .val (.long fv), .second, .val (.int i2), .val (.int i3), .val (.int i4), .val (.ref r_1), .val (.int (1 : Int32)), .val (.ref b16), .val (.long (i0.toInt64)), .second, .val (.long ((4 : Int64) * (i0.toInt64))), .second, .val (.long fv), .second, .unset] [(.int (1 : Int32))])) (fun _ k => XS.goto X21.here hx rfl (pc0 := 80) (pc' := 84) rfl (hb hby at_80) (by decide) (by decide) k) ?_
        refine Goes.step (B := T21.setTop (mkF m 86 #[.val (.int i0), .val (.long fv), .second, .val (.int i2), .val (.int i3), .val (.int i4), .val (.ref r_1), .val (.int (1 : Int32)), .val (.ref b16), .val (.long (i0.toInt64)), .second, .val (.long ((4 : Int64) * (i0.toInt64))), .second, .val (.long fv), .second, .val (.int (1 : Int32))] [])) (fun _ k => XS.istore X21.here hx rfl (hb hby at_84) rfl (l' := #[.val (.int i0), .val (.long fv), .second, .val (.int i2), .val (.int i3), .val (.int i4), .val (.ref r_1), .val (.int (1 : Int32)), .val (.ref b16), .val (.long (i0.toInt64)), .second, .val (.long ((4 : Int64) * (i0.toInt64))), .second, .val (.long fv), .second, .val (.int (1 : Int32))]) rfl k) ?_
        refine Goes.step (B := T21.setTop (mkF m 88 #[.val (.int i0), .val (.long fv), .second, .val (.int i2), .val (.int i3), .val (.int i4), .val (.ref r_1), .val (.int (1 : Int32)), .val (.ref b16), .val (.long (i0.toInt64)), .second, .val (.long ((4 : Int64) * (i0.toInt64))), .second, .val (.long fv), .second, .val (.int (1 : Int32))] [(.ref b16)])) (fun _ k => XS.aload X21.here hx rfl (hb hby at_86) rfl rfl k) ?_
        refine Goes.step (B := T21.setTop (mkF m 90 #[.val (.int i0), .val (.long fv), .second, .val (.int i2), .val (.int i3), .val (.int i4), .val (.ref r_1), .val (.int (1 : Int32)), .val (.ref b16), .val (.long (i0.toInt64)), .second, .val (.long ((4 : Int64) * (i0.toInt64))), .second, .val (.long fv), .second, .val (.int (1 : Int32))] [(.long fv), (.ref b16)])) (fun _ k => XS.lload X21.here hx rfl (hb hby at_88) rfl k) ?_
        obtain ⟨cq25, kq25, qa25, qb25, qc25⟩ := isOf hZ rfl Ex21
        obtain ⟨_, _, ⟨T25, L25, k25, n25⟩, -, X25, ⟨Lc25, hQ25, l25, y25, z25⟩, st25⟩ := X21.virtualBack hx (y := (⟨"com/example/roundkeeper/roundkeeper/rulesets/sealedorders/Weapon$Shot", "reaches", "(J)Z"⟩ : MethodName)) (z := (⟨"com/example/roundkeeper/roundkeeper/rulesets/sealedorders/Weapon$Shot", "reaches", "(J)Z"⟩ : MethodName)) hown (mvT hZ (hw _ (List.mem_of_getElem? (i := 27) rfl))) (mvT hZ (hw _ (List.mem_of_getElem? (i := 28) rfl))) (notFace_of_selects (args := #[]) (mvT hZ (hw _ (List.mem_of_getElem? (i := 30) rfl)))) (mvT hZ (hw _ (List.mem_of_getElem? (i := 30) rfl))) (mvT hZ (hw _ (List.mem_of_getElem? (i := 29) rfl))) (by decide) (backOf (W := 0) (rmr1 l Z a0 hw [] b16 fv i0 T21.heap n0 O_21 hc76_22 Fc21_range) hZ (hw _ (List.mem_of_getElem? (i := 31) rfl)) (hw _ (List.mem_of_getElem? (i := 9) rfl)) (by decide) (by decide)) qa25 qc25 (g := (mkF m 90 #[.val (.int i0), .val (.long fv), .second, .val (.int i2), .val (.int i3), .val (.int i4), .val (.ref r_1), .val (.int (1 : Int32)), .val (.ref b16), .val (.long (i0.toInt64)), .second, .val (.long ((4 : Int64) * (i0.toInt64))), .second, .val (.long fv), .second, .val (.int (1 : Int32))] [(.long fv), (.ref b16)])) rfl (by rw [hml]; rfl) (Steps.refl _) (argsL := [(.long fv)]) (rest := []) (lenOf pd_3 rfl) rfl (by show 2 * 0 + _ ≤ _; exact Nat.le_of_eq rfl) (hb hby at_90) (fun _ _ => ⟨rfl, rfl, (by decide : 1 + 0 ≤ _), (by decide : 3 + 0 ≤ _)⟩)
        dsimp only [Pt.U, Pt.locs, Pt.cells, Pt.slots] at X25 l25 y25 z25 st25 hQ25
        subst l25 y25 z25
        obtain ⟨rfl, Nq25, eh25⟩ := hQ25
        have N25 := Fr.app N21 Nq25
        refine Goes.via (B := T25.setTop (mkF m 93 #[.val (.int i0), .val (.long fv), .second, .val (.int i2), .val (.int i3), .val (.int i4), .val (.ref r_1), .val (.int (1 : Int32)), .val (.ref b16), .val (.long (i0.toInt64)), .second, .val (.long ((4 : Int64) * (i0.toInt64))), .second, .val (.long fv), .second, .val (.int (1 : Int32))] [(.int (1 : Int32))])) st25 ?_
        refine Goes.step (B := T25.setTop (mkF m 95 #[.val (.int i0), .val (.long fv), .second, .val (.int i2), .val (.int i3), .val (.int i4), .val (.ref r_1), .val (.int (1 : Int32)), .val (.ref b16), .val (.long (i0.toInt64)), .second, .val (.long ((4 : Int64) * (i0.toInt64))), .second, .val (.long fv), .second, .val (.int (1 : Int32))] [(.int (1 : Int32)), (.int (1 : Int32))])) (fun _ k => XS.iload X25.here hx rfl (hb hby at_93) rfl k) ?_
        refine Goes.step (B := T25.setTop (mkF m 98 #[.val (.int i0), .val (.long fv), .second, .val (.int i2), .val (.int i3), .val (.int i4), .val (.ref r_1), .val (.int (1 : Int32)), .val (.ref b16), .val (.long (i0.toInt64)), .second, .val (.long ((4 : Int64) * (i0.toInt64))), .second, .val (.long fv), .second, .val (.int (1 : Int32))] [])) (fun _ k => XS.icmpNo X25.here hx rfl (hb hby at_95) rfl (teq (by decide)).2 k) ?_
        refine Goes.step (B := T25.setTop (mkF m 99 #[.val (.int i0), .val (.long fv), .second, .val (.int i2), .val (.int i3), .val (.int i4), .val (.ref r_1), .val (.int (1 : Int32)), .val (.ref b16), .val (.long (i0.toInt64)), .second, .val (.long ((4 : Int64) * (i0.toInt64))), .second, .val (.long fv), .second, .val (.int (1 : Int32))] [(.int (1 : Int32))])) (fun _ k => XS.iconst X25.here hx rfl (hb hby at_98) k) ?_
        refine Goes.step (B := T25.setTop (mkF m 103 #[.val (.int i0), .val (.long fv), .second, .val (.int i2), .val (.int i3), .val (.int i4), .val (.ref r_1), .val (.int (1 : Int32)), .val (.ref b16), .val (.long (i0.toInt64)), .second, .val (.long ((4 : Int64) * (i0.toInt64))), .second, .val (.long fv), .second, .val (.int (1 : Int32))] [(.int (1 : Int32))])) (fun _ k => XS.goto X25.here hx rfl (pc0 := 99) (pc' := 103) rfl (hb hby at_99) (by decide) (by decide) k) ?_
        exact Goes.retN X25 hx eh25 (t := .boolean) Bd.returns (by simp) hlk (hb hby at_103) (by decide) (by decide) (⟨rfl, N25⟩)
    · refine Goes.step (B := T21.setTop (mkF m 57 #[.val (.int i0), .val (.long i1), .second, .val (.int i2), .val (.int i3), .val (.int i4), .val (.ref r_1), .val (.int (1 : Int32)), .val (.ref b16), .val (.long (i0.toInt64)), .second, .val (.long ((4 : Int64) * (i0.toInt64))), .second, .unset, .unset, .unset] [])) (fun _ k => XS.ifNo X21.here hx rfl (hb hby at_54) rfl ((if0 _ _).trans (feq hc54_21).1) k) ?_
      refine Goes.step (B := T21.setTop (mkF m 59 #[.val (.int i0), .val (.long i1), .second, .val (.int i2), .val (.int i3), .val (.int i4), .val (.ref r_1), .val (.int (1 : Int32)), .val (.ref b16), .val (.long (i0.toInt64)), .second, .val (.long ((4 : Int64) * (i0.toInt64))), .second, .unset, .unset, .unset] [(.long ((4 : Int64) * (i0.toInt64)))])) (fun _ k => XS.lload X21.here hx rfl (hb hby at_57) rfl k) ?_
      refine Goes.step (B := T21.setTop (mkF m 61 #[.val (.int i0), .val (.long i1), .second, .val (.int i2), .val (.int i3), .val (.int i4), .val (.ref r_1), .val (.int (1 : Int32)), .val (.ref b16), .val (.long (i0.toInt64)), .second, .val (.long ((4 : Int64) * (i0.toInt64))), .second, .unset, .unset, .unset] [(.int i3), (.long ((4 : Int64) * (i0.toInt64)))])) (fun _ k => XS.iload X21.here hx rfl (hb hby at_59) rfl k) ?_
      refine Goes.step (B := T21.setTop (mkF m 62 #[.val (.int i0), .val (.long i1), .second, .val (.int i2), .val (.int i3), .val (.int i4), .val (.ref r_1), .val (.int (1 : Int32)), .val (.ref b16), .val (.long (i0.toInt64)), .second, .val (.long ((4 : Int64) * (i0.toInt64))), .second, .unset, .unset, .unset] [(.int (3 : Int32)), (.int i3), (.long ((4 : Int64) * (i0.toInt64)))])) (fun _ k => XS.iconst X21.here hx rfl (hb hby at_61) k) ?_
      refine Goes.step (B := T21.setTop (mkF m 63 #[.val (.int i0), .val (.long i1), .second, .val (.int i2), .val (.int i3), .val (.int i4), .val (.ref r_1), .val (.int (1 : Int32)), .val (.ref b16), .val (.long (i0.toInt64)), .second, .val (.long ((4 : Int64) * (i0.toInt64))), .second, .unset, .unset, .unset] [(.int (i3 % (3 : Int32))), (.long ((4 : Int64) * (i0.toInt64)))])) (fun _ k => iremM X21 hx rfl (hb hby at_62) rfl (by decide) k) ?_
      refine Goes.step (B := T21.setTop (mkF m 64 #[.val (.int i0), .val (.long i1), .second, .val (.int i2), .val (.int i3), .val (.int i4), .val (.ref r_1), .val (.int (1 : Int32)), .val (.ref b16), .val (.long (i0.toInt64)), .second, .val (.long ((4 : Int64) * (i0.toInt64))), .second, .unset, .unset, .unset] [(.long (i3 % (3 : Int32)).toInt64), (.long ((4 : Int64) * (i0.toInt64)))])) (fun _ k => XS.i2l X21.here hx rfl (hb hby at_63) rfl k) ?_
      refine Goes.step (B := T21.setTop (mkF m 65 #[.val (.int i0), .val (.long i1), .second, .val (.int i2), .val (.int i3), .val (.int i4), .val (.ref r_1), .val (.int (1 : Int32)), .val (.ref b16), .val (.long (i0.toInt64)), .second, .val (.long ((4 : Int64) * (i0.toInt64))), .second, .unset, .unset, .unset] [(.long (((4 : Int64) * (i0.toInt64)) + (i3 % (3 : Int32)).toInt64))])) (fun _ k => XS.ladd X21.here hx rfl (hb hby at_64) rfl k) ?_
      refine Goes.step (B := T21.setTop (mkF m 69 #[.val (.int i0), .val (.long i1), .second, .val (.int i2), .val (.int i3), .val (.int i4), .val (.ref r_1), .val (.int (1 : Int32)), .val (.ref b16), .val (.long (i0.toInt64)), .second, .val (.long ((4 : Int64) * (i0.toInt64))), .second, .unset, .unset, .unset] [(.long (((4 : Int64) * (i0.toInt64)) + (i3 % (3 : Int32)).toInt64))])) (fun _ k => XS.goto X21.here hx rfl (pc0 := 65) (pc' := 69) rfl (hb hby at_65) (by decide) (by decide) k) ?_
      obtain ⟨fv, hfv⟩ : ∃ z, z = (((4 : Int64) * (i0.toInt64)) + (i3 % (3 : Int32)).toInt64) := ⟨_, rfl⟩
      rw [← hfv]
      refine Goes.step (B := T21.setTop (mkF m 71 #[.val (.int i0), .val (.long i1), .second, .val (.int i2), .val (.int i3), .val (.int i4), .val (.ref r_1), .val (.int (1 : Int32)), .val (.ref b16), .val (.long (i0.toInt64)), .second, .val (.long ((4 : Int64) * (i0.toInt64))), .second, .val (.long fv), .second, .unset] [])) (fun _ k => XS.lstore X21.here hx rfl (hb hby at_69) rfl (l' := #[.val (.int i0), .val (.long i1), .second, .val (.int i2), .val (.int i3), .val (.int i4), .val (.ref r_1), .val (.int (1 : Int32)), .val (.ref b16), .val (.long (i0.toInt64)), .second, .val (.long ((4 : Int64) * (i0.toInt64))), .second, .val (.long fv), .second, .unset]) rfl k) ?_
      refine Goes.step (B := T21.setTop (mkF m 73 #[.val (.int i0), .val (.long i1), .second, .val (.int i2), .val (.int i3), .val (.int i4), .val (.ref r_1), .val (.int (1 : Int32)), .val (.ref b16), .val (.long (i0.toInt64)), .second, .val (.long ((4 : Int64) * (i0.toInt64))), .second, .val (.long fv), .second, .unset] [(.long fv)])) (fun _ k => XS.lload X21.here hx rfl (hb hby at_71) rfl k) ?_
      refine Goes.step (B := T21.setTop (mkF m 75 #[.val (.int i0), .val (.long i1), .second, .val (.int i2), .val (.int i3), .val (.int i4), .val (.ref r_1), .val (.int (1 : Int32)), .val (.ref b16), .val (.long (i0.toInt64)), .second, .val (.long ((4 : Int64) * (i0.toInt64))), .second, .val (.long fv), .second, .unset] [(.long ((4 : Int64) * (i0.toInt64))), (.long fv)])) (fun _ k => XS.lload X21.here hx rfl (hb hby at_73) rfl k) ?_
      refine Goes.step (B := T21.setTop (mkF m 76 #[.val (.int i0), .val (.long i1), .second, .val (.int i2), .val (.int i3), .val (.int i4), .val (.ref r_1), .val (.int (1 : Int32)), .val (.ref b16), .val (.long (i0.toInt64)), .second, .val (.long ((4 : Int64) * (i0.toInt64))), .second, .val (.long fv), .second, .unset] [(.int (lcmpW fv ((4 : Int64) * (i0.toInt64))))])) (fun _ k => XS.lcmp X21.here hx rfl (hb hby at_75) rfl k) ?_
      by_cases hc76_25 : ((4 : Int64) * (i0.toInt64)) < fv
      · refine Goes.step (B := T21.setTop (mkF m 83 #[.val (.int i0), .val (.long i1), .second, .val (.int i2), .val (.int i3), .val (.int i4), .val (.ref r_1), .val (.int (1 : Int32)), .val (.ref b16), .val (.long (i0.toInt64)), .second, .val (.long ((4 : Int64) * (i0.toInt64))), .second, .val (.long fv), .second, .unset] [])) (fun _ k => XS.ifYes X21.here hx rfl (pc0 := 76) (pc' := 83) rfl (hb hby at_76) rfl ((if0 _ _).trans (tlt ((lw_gt _ _).mpr hc76_25)).2.2.1) (by decide) (by decide) k) ?_
        refine Goes.step (B := T21.setTop (mkF m 84 #[.val (.int i0), .val (.long i1), .second, .val (.int i2), .val (.int i3), .val (.int i4), .val (.ref r_1), .val (.int (1 : Int32)), .val (.ref b16), .val (.long (i0.toInt64)), .second, .val (.long ((4 : Int64) * (i0.toInt64))), .second, .val (.long fv), .second, .unset] [(.int (0 : Int32))])) (fun _ k => XS.iconst X21.here hx rfl (hb hby at_83) k) ?_
        refine Goes.step (B := T21.setTop (mkF m 86 #[.val (.int i0), .val (.long i1), .second, .val (.int i2), .val (.int i3), .val (.int i4), .val (.ref r_1), .val (.int (1 : Int32)), .val (.ref b16), .val (.long (i0.toInt64)), .second, .val (.long ((4 : Int64) * (i0.toInt64))), .second, .val (.long fv), .second, .val (.int (0 : Int32))] [])) (fun _ k => XS.istore X21.here hx rfl (hb hby at_84) rfl (l' := #[.val (.int i0), .val (.long i1), .second, .val (.int i2), .val (.int i3), .val (.int i4), .val (.ref r_1), .val (.int (1 : Int32)), .val (.ref b16), .val (.long (i0.toInt64)), .second, .val (.long ((4 : Int64) * (i0.toInt64))), .second, .val (.long fv), .second, .val (.int (0 : Int32))]) rfl k) ?_
        refine Goes.step (B := T21.setTop (mkF m 88 #[.val (.int i0), .val (.long i1), .second, .val (.int i2), .val (.int i3), .val (.int i4), .val (.ref r_1), .val (.int (1 : Int32)), .val (.ref b16), .val (.long (i0.toInt64)), .second, .val (.long ((4 : Int64) * (i0.toInt64))), .second, .val (.long fv), .second, .val (.int (0 : Int32))] [(.ref b16)])) (fun _ k => XS.aload X21.here hx rfl (hb hby at_86) rfl rfl k) ?_
        refine Goes.step (B := T21.setTop (mkF m 90 #[.val (.int i0), .val (.long i1), .second, .val (.int i2), .val (.int i3), .val (.int i4), .val (.ref r_1), .val (.int (1 : Int32)), .val (.ref b16), .val (.long (i0.toInt64)), .second, .val (.long ((4 : Int64) * (i0.toInt64))), .second, .val (.long fv), .second, .val (.int (0 : Int32))] [(.long fv), (.ref b16)])) (fun _ k => XS.lload X21.here hx rfl (hb hby at_88) rfl k) ?_
        obtain ⟨cq27, kq27, qa27, qb27, qc27⟩ := isOf hZ rfl Ex21
        obtain ⟨_, _, ⟨T27, L27, k27, n27⟩, -, X27, ⟨Lc27, hQ27, l27, y27, z27⟩, st27⟩ := X21.virtualBack hx (y := (⟨"com/example/roundkeeper/roundkeeper/rulesets/sealedorders/Weapon$Shot", "reaches", "(J)Z"⟩ : MethodName)) (z := (⟨"com/example/roundkeeper/roundkeeper/rulesets/sealedorders/Weapon$Shot", "reaches", "(J)Z"⟩ : MethodName)) hown (mvT hZ (hw _ (List.mem_of_getElem? (i := 27) rfl))) (mvT hZ (hw _ (List.mem_of_getElem? (i := 28) rfl))) (notFace_of_selects (args := #[]) (mvT hZ (hw _ (List.mem_of_getElem? (i := 30) rfl)))) (mvT hZ (hw _ (List.mem_of_getElem? (i := 30) rfl))) (mvT hZ (hw _ (List.mem_of_getElem? (i := 29) rfl))) (by decide) (backOf (W := 0) (rmr0 l Z a0 hw [] b16 fv i0 T21.heap n0 O_21 hc76_25 Fc21_range) hZ (hw _ (List.mem_of_getElem? (i := 31) rfl)) (hw _ (List.mem_of_getElem? (i := 9) rfl)) (by decide) (by decide)) qa27 qc27 (g := (mkF m 90 #[.val (.int i0), .val (.long i1), .second, .val (.int i2), .val (.int i3), .val (.int i4), .val (.ref r_1), .val (.int (1 : Int32)), .val (.ref b16), .val (.long (i0.toInt64)), .second, .val (.long ((4 : Int64) * (i0.toInt64))), .second, .val (.long fv), .second, .val (.int (0 : Int32))] [(.long fv), (.ref b16)])) rfl (by rw [hml]; rfl) (Steps.refl _) (argsL := [(.long fv)]) (rest := []) (lenOf pd_3 rfl) rfl (by show 2 * 0 + _ ≤ _; exact Nat.le_of_eq rfl) (hb hby at_90) (fun _ _ => ⟨rfl, rfl, (by decide : 1 + 0 ≤ _), (by decide : 3 + 0 ≤ _)⟩)
        dsimp only [Pt.U, Pt.locs, Pt.cells, Pt.slots] at X27 l27 y27 z27 st27 hQ27
        subst l27 y27 z27
        obtain ⟨rfl, Nq27, eh27⟩ := hQ27
        have N27 := Fr.app N21 Nq27
        refine Goes.via (B := T27.setTop (mkF m 93 #[.val (.int i0), .val (.long i1), .second, .val (.int i2), .val (.int i3), .val (.int i4), .val (.ref r_1), .val (.int (1 : Int32)), .val (.ref b16), .val (.long (i0.toInt64)), .second, .val (.long ((4 : Int64) * (i0.toInt64))), .second, .val (.long fv), .second, .val (.int (0 : Int32))] [(.int (0 : Int32))])) st27 ?_
        refine Goes.step (B := T27.setTop (mkF m 95 #[.val (.int i0), .val (.long i1), .second, .val (.int i2), .val (.int i3), .val (.int i4), .val (.ref r_1), .val (.int (1 : Int32)), .val (.ref b16), .val (.long (i0.toInt64)), .second, .val (.long ((4 : Int64) * (i0.toInt64))), .second, .val (.long fv), .second, .val (.int (0 : Int32))] [(.int (0 : Int32)), (.int (0 : Int32))])) (fun _ k => XS.iload X27.here hx rfl (hb hby at_93) rfl k) ?_
        refine Goes.step (B := T27.setTop (mkF m 98 #[.val (.int i0), .val (.long i1), .second, .val (.int i2), .val (.int i3), .val (.int i4), .val (.ref r_1), .val (.int (1 : Int32)), .val (.ref b16), .val (.long (i0.toInt64)), .second, .val (.long ((4 : Int64) * (i0.toInt64))), .second, .val (.long fv), .second, .val (.int (0 : Int32))] [])) (fun _ k => XS.icmpNo X27.here hx rfl (hb hby at_95) rfl (teq (by decide)).2 k) ?_
        refine Goes.step (B := T27.setTop (mkF m 99 #[.val (.int i0), .val (.long i1), .second, .val (.int i2), .val (.int i3), .val (.int i4), .val (.ref r_1), .val (.int (1 : Int32)), .val (.ref b16), .val (.long (i0.toInt64)), .second, .val (.long ((4 : Int64) * (i0.toInt64))), .second, .val (.long fv), .second, .val (.int (0 : Int32))] [(.int (1 : Int32))])) (fun _ k => XS.iconst X27.here hx rfl (hb hby at_98) k) ?_
        refine Goes.step (B := T27.setTop (mkF m 103 #[.val (.int i0), .val (.long i1), .second, .val (.int i2), .val (.int i3), .val (.int i4), .val (.ref r_1), .val (.int (1 : Int32)), .val (.ref b16), .val (.long (i0.toInt64)), .second, .val (.long ((4 : Int64) * (i0.toInt64))), .second, .val (.long fv), .second, .val (.int (0 : Int32))] [(.int (1 : Int32))])) (fun _ k => XS.goto X27.here hx rfl (pc0 := 99) (pc' := 103) rfl (hb hby at_99) (by decide) (by decide) k) ?_
        exact Goes.retN X27 hx eh27 (t := .boolean) Bd.returns (by simp) hlk (hb hby at_103) (by decide) (by decide) (⟨rfl, N27⟩)
      · refine Goes.step (B := T21.setTop (mkF m 79 #[.val (.int i0), .val (.long i1), .second, .val (.int i2), .val (.int i3), .val (.int i4), .val (.ref r_1), .val (.int (1 : Int32)), .val (.ref b16), .val (.long (i0.toInt64)), .second, .val (.long ((4 : Int64) * (i0.toInt64))), .second, .val (.long fv), .second, .unset] [])) (fun _ k => XS.ifNo X21.here hx rfl (hb hby at_76) rfl ((if0 _ _).trans (flt (fun q => hc76_25 ((lw_gt _ _).mp q))).2.2.1) k) ?_
        refine Goes.step (B := T21.setTop (mkF m 80 #[.val (.int i0), .val (.long i1), .second, .val (.int i2), .val (.int i3), .val (.int i4), .val (.ref r_1), .val (.int (1 : Int32)), .val (.ref b16), .val (.long (i0.toInt64)), .second, .val (.long ((4 : Int64) * (i0.toInt64))), .second, .val (.long fv), .second, .unset] [(.int (1 : Int32))])) (fun _ k => XS.iconst X21.here hx rfl (hb hby at_79) k) ?_
        refine Goes.step (B := T21.setTop (mkF m 84 #[.val (.int i0), .val (.long i1), .second, .val (.int i2), .val (.int i3), .val (.int i4), .val (.ref r_1), .val (.int (1 : Int32)), .val (.ref b16), .val (.long (i0.toInt64)), .second, .val (.long ((4 : Int64) * (i0.toInt64))), .second, .val (.long fv), .second, .unset] [(.int (1 : Int32))])) (fun _ k => XS.goto X21.here hx rfl (pc0 := 80) (pc' := 84) rfl (hb hby at_80) (by decide) (by decide) k) ?_
        refine Goes.step (B := T21.setTop (mkF m 86 #[.val (.int i0), .val (.long i1), .second, .val (.int i2), .val (.int i3), .val (.int i4), .val (.ref r_1), .val (.int (1 : Int32)), .val (.ref b16), .val (.long (i0.toInt64)), .second, .val (.long ((4 : Int64) * (i0.toInt64))), .second, .val (.long fv), .second, .val (.int (1 : Int32))] [])) (fun _ k => XS.istore X21.here hx rfl (hb hby at_84) rfl (l' := #[.val (.int i0), .val (.long i1), .second, .val (.int i2), .val (.int i3), .val (.int i4), .val (.ref r_1), .val (.int (1 : Int32)), .val (.ref b16), .val (.long (i0.toInt64)), .second, .val (.long ((4 : Int64) * (i0.toInt64))), .second, .val (.long fv), .second, .val (.int (1 : Int32))]) rfl k) ?_
        refine Goes.step (B := T21.setTop (mkF m 88 #[.val (.int i0), .val (.long i1), .second, .val (.int i2), .val (.int i3), .val (.int i4), .val (.ref r_1), .val (.int (1 : Int32)), .val (.ref b16), .val (.long (i0.toInt64)), .second, .val (.long ((4 : Int64) * (i0.toInt64))), .second, .val (.long fv), .second, .val (.int (1 : Int32))] [(.ref b16)])) (fun _ k => XS.aload X21.here hx rfl (hb hby at_86) rfl rfl k) ?_
        refine Goes.step (B := T21.setTop (mkF m 90 #[.val (.int i0), .val (.long i1), .second, .val (.int i2), .val (.int i3), .val (.int i4), .val (.ref r_1), .val (.int (1 : Int32)), .val (.ref b16), .val (.long (i0.toInt64)), .second, .val (.long ((4 : Int64) * (i0.toInt64))), .second, .val (.long fv), .second, .val (.int (1 : Int32))] [(.long fv), (.ref b16)])) (fun _ k => XS.lload X21.here hx rfl (hb hby at_88) rfl k) ?_
        obtain ⟨cq28, kq28, qa28, qb28, qc28⟩ := isOf hZ rfl Ex21
        obtain ⟨_, _, ⟨T28, L28, k28, n28⟩, -, X28, ⟨Lc28, hQ28, l28, y28, z28⟩, st28⟩ := X21.virtualBack hx (y := (⟨"com/example/roundkeeper/roundkeeper/rulesets/sealedorders/Weapon$Shot", "reaches", "(J)Z"⟩ : MethodName)) (z := (⟨"com/example/roundkeeper/roundkeeper/rulesets/sealedorders/Weapon$Shot", "reaches", "(J)Z"⟩ : MethodName)) hown (mvT hZ (hw _ (List.mem_of_getElem? (i := 27) rfl))) (mvT hZ (hw _ (List.mem_of_getElem? (i := 28) rfl))) (notFace_of_selects (args := #[]) (mvT hZ (hw _ (List.mem_of_getElem? (i := 30) rfl)))) (mvT hZ (hw _ (List.mem_of_getElem? (i := 30) rfl))) (mvT hZ (hw _ (List.mem_of_getElem? (i := 29) rfl))) (by decide) (backOf (W := 0) (rmr1 l Z a0 hw [] b16 fv i0 T21.heap n0 O_21 hc76_25 Fc21_range) hZ (hw _ (List.mem_of_getElem? (i := 31) rfl)) (hw _ (List.mem_of_getElem? (i := 9) rfl)) (by decide) (by decide)) qa28 qc28 (g := (mkF m 90 #[.val (.int i0), .val (.long i1), .second, .val (.int i2), .val (.int i3), .val (.int i4), .val (.ref r_1), .val (.int (1 : Int32)), .val (.ref b16), .val (.long (i0.toInt64)), .second, .val (.long ((4 : Int64) * (i0.toInt64))), .second, .val (.long fv), .second, .val (.int (1 : Int32))] [(.long fv), (.ref b16)])) rfl (by rw [hml]; rfl) (Steps.refl _) (argsL := [(.long fv)]) (rest := []) (lenOf pd_3 rfl) rfl (by show 2 * 0 + _ ≤ _; exact Nat.le_of_eq rfl) (hb hby at_90) (fun _ _ => ⟨rfl, rfl, (by decide : 1 + 0 ≤ _), (by decide : 3 + 0 ≤ _)⟩)
        dsimp only [Pt.U, Pt.locs, Pt.cells, Pt.slots] at X28 l28 y28 z28 st28 hQ28
        subst l28 y28 z28
        obtain ⟨rfl, Nq28, eh28⟩ := hQ28
        have N28 := Fr.app N21 Nq28
        refine Goes.via (B := T28.setTop (mkF m 93 #[.val (.int i0), .val (.long i1), .second, .val (.int i2), .val (.int i3), .val (.int i4), .val (.ref r_1), .val (.int (1 : Int32)), .val (.ref b16), .val (.long (i0.toInt64)), .second, .val (.long ((4 : Int64) * (i0.toInt64))), .second, .val (.long fv), .second, .val (.int (1 : Int32))] [(.int (1 : Int32))])) st28 ?_
        refine Goes.step (B := T28.setTop (mkF m 95 #[.val (.int i0), .val (.long i1), .second, .val (.int i2), .val (.int i3), .val (.int i4), .val (.ref r_1), .val (.int (1 : Int32)), .val (.ref b16), .val (.long (i0.toInt64)), .second, .val (.long ((4 : Int64) * (i0.toInt64))), .second, .val (.long fv), .second, .val (.int (1 : Int32))] [(.int (1 : Int32)), (.int (1 : Int32))])) (fun _ k => XS.iload X28.here hx rfl (hb hby at_93) rfl k) ?_
        refine Goes.step (B := T28.setTop (mkF m 98 #[.val (.int i0), .val (.long i1), .second, .val (.int i2), .val (.int i3), .val (.int i4), .val (.ref r_1), .val (.int (1 : Int32)), .val (.ref b16), .val (.long (i0.toInt64)), .second, .val (.long ((4 : Int64) * (i0.toInt64))), .second, .val (.long fv), .second, .val (.int (1 : Int32))] [])) (fun _ k => XS.icmpNo X28.here hx rfl (hb hby at_95) rfl (teq (by decide)).2 k) ?_
        refine Goes.step (B := T28.setTop (mkF m 99 #[.val (.int i0), .val (.long i1), .second, .val (.int i2), .val (.int i3), .val (.int i4), .val (.ref r_1), .val (.int (1 : Int32)), .val (.ref b16), .val (.long (i0.toInt64)), .second, .val (.long ((4 : Int64) * (i0.toInt64))), .second, .val (.long fv), .second, .val (.int (1 : Int32))] [(.int (1 : Int32))])) (fun _ k => XS.iconst X28.here hx rfl (hb hby at_98) k) ?_
        refine Goes.step (B := T28.setTop (mkF m 103 #[.val (.int i0), .val (.long i1), .second, .val (.int i2), .val (.int i3), .val (.int i4), .val (.ref r_1), .val (.int (1 : Int32)), .val (.ref b16), .val (.long (i0.toInt64)), .second, .val (.long ((4 : Int64) * (i0.toInt64))), .second, .val (.long fv), .second, .val (.int (1 : Int32))] [(.int (1 : Int32))])) (fun _ k => XS.goto X28.here hx rfl (pc0 := 99) (pc' := 103) rfl (hb hby at_99) (by decide) (by decide) k) ?_
        exact Goes.retN X28 hx eh28 (t := .boolean) Bd.returns (by simp) hlk (hb hby at_103) (by decide) (by decide) (⟨rfl, N28⟩)
set_option maxRecDepth 65536 in
set_option maxHeartbeats 40000000 in
theorem comes_1 {Post : Tables → Env → Array Value → State → Outcome → State → Prop} (hpost : ∀ tb e args s v u, (limb_1_1.after args s (.returned v) u = true ∧ limb_1_2.after args s (.returned v) u = true ∧ True) → FrameEnd s (.returned v) u (Jvm.fieldLocs frame_1_writes args s ++ Jvm.arrayLocs frame_1_arrays args s ++ Jvm.staticLocs frame_1_statics s) 16 128 → Post tb e args s (.returned v) u) :
    ArmFor flags0 classFile x code maxLocals ret World_1 tables_1 room_1 Calls_1 rest_1 Pre_1 Post := by
  intro l hfl _ _ p e ha hc hk s m args below hf hA hF happ hP
  obtain ⟨hcalls, hrest, hpre⟩ := hP
  obtain ⟨-, -, -, hnamed, -, -, -, hat⟩ := (Spec.applies_iff hf).mp happ
  obtain ⟨hg, hn⟩ := and_e (Cond.before_iff.mp (show (Jvm.Cond.and given_1 narrow_1).before args s = true from hpre))
  obtain ⟨hcount, hg⟩ := and_e hg
  obtain ⟨w0, w1, w2, w3, w4, rfl⟩ : ∃ w0 w1 w2 w3 w4 : Value, args = #[w0, w1, w2, w3, w4] := by
    have hs : args.size = 5 := by simpa [Cond.value, given_1] using hcount
    obtain ⟨L⟩ := args
    match L, hs with
    | [w0, w1, w2, w3, w4], _ => exact ⟨w0, w1, w2, w3, w4, rfl⟩
  have hw := fun d (hd : d ∈ tables_1) => atoms_spec (ws := Jvm.Cond.code x code maxLocals ret :: tables_1) hat d (List.mem_cons_of_mem _ hd)
  have hfit : Fit s := fun {y c} hc i hi => by
    obtain ⟨ha, rfl⟩ := Array.getElem?_eq_some_iff.mp hc
    have q := List.all_eq_true.mp ((Array.all_eq_true_iff_forall_mem.mp hF) _ (Array.getElem_mem ha)) i (List.mem_range.mpr hi)
    simpa [Array.getElem?_eq_getElem hi] using q
  obtain ⟨hi0, hg0⟩ := and_e hg
  obtain ⟨i0, ei0⟩ := is_v hi0
  obtain rfl : w0 = (.int i0) := Option.some.inj ei0
  obtain ⟨hi1, hg1⟩ := and_e hg0
  obtain ⟨i1, ei1⟩ := isL_v hi1
  obtain rfl : w1 = (.long i1) := Option.some.inj ei1
  obtain ⟨hi2, hg2⟩ := and_e hg1
  obtain ⟨i2, ei2⟩ := is_v hi2
  obtain rfl : w2 = (.int i2) := Option.some.inj ei2
  obtain ⟨hi3, hg3⟩ := and_e hg2
  obtain ⟨i3, ei3⟩ := is_v hi3
  obtain rfl : w3 = (.int i3) := Option.some.inj ei3
  obtain ⟨i4, ei4⟩ := is_v hg3
  obtain rfl : w4 = (.int i4) := Option.some.inj ei4
  obtain ⟨hn0, hr0⟩ := and_e hn
  obtain ⟨hn1, hr1⟩ := and_e hr0
  obtain ⟨hn2, hr2⟩ := and_e hr1
  obtain ⟨a_COMPLEX_RELOAD, ev_COMPLEX_RELOAD⟩ := exa_v hn0
  have S_COMPLEX_RELOAD := Sta.start ev_COMPLEX_RELOAD (Or.inr ⟨(hw _ (List.mem_of_getElem? (i := 5) rfl)), (hw _ (List.mem_of_getElem? (i := 6) rfl))⟩)
  have E_COMPLEX_RELOAD := Exa.start ev_COMPLEX_RELOAD hn0
  obtain ⟨a_QUICK_RELOAD, ev_QUICK_RELOAD⟩ := exa_v hn1
  have S_QUICK_RELOAD := Sta.start ev_QUICK_RELOAD (Or.inr ⟨(hw _ (List.mem_of_getElem? (i := 5) rfl)), (hw _ (List.mem_of_getElem? (i := 34) rfl))⟩)
  have E_QUICK_RELOAD := Exa.start ev_QUICK_RELOAD hn1
  obtain ⟨a_THROWN, ev_THROWN⟩ := exa_v hn2
  have S_THROWN := Sta.start ev_THROWN (Or.inr ⟨(hw _ (List.mem_of_getElem? (i := 5) rfl)), (hw _ (List.mem_of_getElem? (i := 36) rfl))⟩)
  have E_THROWN := Exa.start ev_THROWN hn2
  obtain ⟨a_NONE, ev_NONE⟩ := exa_v hr2
  have S_NONE := Sta.start ev_NONE (Or.inr ⟨(hw _ (List.mem_of_getElem? (i := 5) rfl)), (hw _ (List.mem_of_getElem? (i := 38) rfl))⟩)
  have E_NONE := Exa.start ev_NONE hr2
  have FS : OwnSt s a_COMPLEX_RELOAD a_QUICK_RELOAD a_THROWN a_NONE := ⟨S_COMPLEX_RELOAD, E_COMPLEX_RELOAD, S_QUICK_RELOAD, E_QUICK_RELOAD, S_THROWN, E_THROWN, S_NONE, E_NONE⟩
  obtain ⟨n, o, h1, h2, h3, _, L, rfl, ⟨rfl, N⟩, hq⟩ := rm0 l s _ hw tables_1 i0 i1 i2 i3 i4 a_COMPLEX_RELOAD a_QUICK_RELOAD a_THROWN a_NONE s.heap s.heap.size (Old.start s) FS p e ha hc hk s m _ below hf ((Spec.applies_iff_loose hf).mp happ).1 ⟨rfl, State.Warmed39.refl s, rfl⟩ trivial
  refine ⟨n, _, h1, h2, h3, hpost _ _ _ _ _ _ ⟨Cond.after_iff.mpr rfl, Cond.after_iff.mpr (eq_i res_at (Term.int_eval (1)) rfl), trivial⟩ ⟨hq.1, hq.2.1, (hq.2.2.sift fun y hy => Or.inr (N y hy)).mono (by decide) (by decide)⟩⟩
theorem main_1_1 : Claimed_1_1 := comes_1 fun _ _ _ _ _ _ h hF => ⟨h.1, hF⟩
theorem main_1_2 : Claimed_1_2 := comes_1 fun _ _ _ _ _ _ h hF => ⟨h.2.1, hF⟩
end Jvm.Pilot.@@N@@
namespace Jvm.Pilot.@@N@@
open Jvm Jvm.ClassFile Sem Op Lib Jvm.Free Jvm.Stand Jvm.Pilot.@@N@@.Jvm.D
/-! MADE BY PROGRAM (witnessworld.py) out of the Statement's table words and the real class files: 14 classes; the members and pool entries that the words name. The judged class is class 1, her method 2. -/
namespace start1
open Jvm.ClassFile
def u (s : String) : CpInfo := .utf8 (stringToUtf16 s)
/-- a pool by its gaps: so many unusable entries, then the entry; so many at the end -/
def gap : Nat → List CpInfo → List CpInfo
  | 0, r => r
  | n + 1, r => .unusable :: gap n r
def poolList (es : List (Nat × CpInfo)) (last : Nat) : List CpInfo := es.foldr (fun e r => gap e.1 (e.2 :: r)) (gap last [])
def pool (es : List (Nat × CpInfo)) (last : Nat) : Array CpInfo := ⟨poolList es last⟩
def fileOf (pool : Array CpInfo) (this : Nat) (attrs : Array Attribute := #[]) (ms : Array MethodInfo := #[]) (fl : Nat := 33) (sup : Nat := 0) (ifs : Array Nat := #[]) (fds : Array FieldInfo := #[]) : ClassFile where
  minorVersion := 0
  majorVersion := 65
  constantPool := pool
  accessFlags := fl
  thisClass := this
  superClass := sup
  interfaces := ifs
  fields := fds
  methods := ms
  attributes := attrs
def plain (name : String) (sup : Option ClassId) : Class where
  name := name
  kind := .ordinary
  loader := none
  accessFlags := 33
  super := sup
  interfaces := #[]
  cf := none
  fields := #[]
  methods := #[]
  instanceTypes := #[]
  staticTypes := #[]
  resolved := #[]
  callSites := []
  init := .initialized
  statics := none
  mirror := none

def pool0 : Array CpInfo := pool [(5, u "<init>"), (0, u "()V"), (1, .class_ 10), (1, u "java/lang/Object")] 113

def k0c0 : Code := { maxStack := 0, maxLocals := 1, code := object_method_1_code, exceptionTable := #[], attributes := #[] }
def k0m0 : Method := { name := "<init>", desc := "()V", sig := { parameters := [], returnType := none }, accessFlags := 1, code := some k0c0 }
/-- java/lang/Object -/
def k0 : Class := { plain "java/lang/Object" none with
  accessFlags := 33
  interfaces := #[]
  cf := some (fileOf pool0 8 #[] #[{ accessFlags := 1, nameIndex := 5, descriptorIndex := 6, attributes := #[] }] 33 0 #[] #[])
  fields := #[]
  methods := #[k0m0]
  instanceTypes := #[]
  staticTypes := #[]
  resolved := Array.replicate 124 none
  statics := none }

def pool1 : Array CpInfo := pool [(2, .class_ 4), (1, u "java/lang/Object"), (0, u "<init>"), (0, u "()V"), (0, .fieldref 8 9), (0, .class_ 10), (0, .nameAndType 11 12), (0, u "com/example/roundkeeper/roundkeeper/rulesets/sealedorders/Weapon$Loading"), (0, u "NONE"), (0, u "Lcom/example/roundkeeper/roundkeeper/rulesets/sealedorders/Weapon$Loading;"), (0, .fieldref 8 14), (0, .nameAndType 15 12), (0, u "THROWN"), (0, .fieldref 8 17), (0, .nameAndType 18 12), (0, u "QUICK_RELOAD"), (0, .fieldref 8 20), (0, .nameAndType 21 12), (0, u "COMPLEX_RELOAD"), (0, .methodref 23 24), (0, .class_ 25), (0, .nameAndType 26 27), (0, u "com/example/roundkeeper/roundkeeper/rulesets/sealedorders/ShotReachesPinLaw"), (0, u "pick"), (0, u "(I)Lcom/example/roundkeeper/roundkeeper/rulesets/sealedorders/Weapon$Loading;"), (0, .class_ 29), (0, u "com/example/roundkeeper/roundkeeper/rulesets/sealedorders/Weapon$Shot"), (0, .methodref 28 31), (0, .nameAndType 5 32), (0, u "(ILcom/example/roundkeeper/roundkeeper/rulesets/sealedorders/Weapon$Loading;Z)V"), (0, .methodref 28 34), (0, .nameAndType 35 36), (0, u "reaches"), (0, u "(J)Z"), (3, u "law"), (0, u "(IJIII)Z")] 7

def k1m0 : Method := { name := "<init>", desc := "()V", sig := { parameters := [], returnType := none }, accessFlags := 1, code := none }
def k1c1 : Code := { maxStack := 2, maxLocals := 2, code := method_2_code, exceptionTable := #[], attributes := #[] }
def k1m1 : Method := { name := "pick", desc := "(I)Lcom/example/roundkeeper/roundkeeper/rulesets/sealedorders/Weapon$Loading;", sig := { parameters := [.int], returnType := some (.object "com/example/roundkeeper/roundkeeper/rulesets/sealedorders/Weapon$Loading") }, accessFlags := 10, code := some k1c1 }
def k1c2 : Code := { maxStack := 5, maxLocals := 16, code := code, exceptionTable := #[], attributes := #[] }
def k1m2 : Method := { name := "law", desc := "(IJIII)Z", sig := { parameters := [.int, .long, .int, .int, .int], returnType := some .boolean }, accessFlags := 9, code := some k1c2 }
/-- com/example/roundkeeper/roundkeeper/rulesets/sealedorders/ShotReachesPinLaw -/
def k1 : Class := { plain "com/example/roundkeeper/roundkeeper/rulesets/sealedorders/ShotReachesPinLaw" (some 0) with
  accessFlags := 49
  interfaces := #[]
  cf := some (fileOf pool1 23 #[] #[{ accessFlags := 1, nameIndex := 5, descriptorIndex := 6, attributes := #[] }, { accessFlags := 10, nameIndex := 26, descriptorIndex := 27, attributes := #[] }, { accessFlags := 9, nameIndex := 40, descriptorIndex := 41, attributes := #[] }] 49 2 #[] #[])
  fields := #[]
  methods := #[k1m0, k1m1, k1m2]
  instanceTypes := #[]
  staticTypes := #[]
  resolved := Array.replicate 49 none
  statics := none }

def pool2 : Array CpInfo := pool [(1, .class_ 2), (0, u "java/lang/constant/Constable"), (0, .class_ 4), (0, u "java/lang/Object")] 6

/-- java/lang/constant/Constable -/
def k2 : Class := { plain "java/lang/constant/Constable" (some 0) with
  accessFlags := 1537
  interfaces := #[]
  cf := some (fileOf pool2 1 #[] #[] 1537 3 #[] #[])
  fields := #[]
  methods := #[]
  instanceTypes := #[]
  staticTypes := #[]
  resolved := Array.replicate 11 none
  statics := none }

def pool3 : Array CpInfo := pool [(1, .class_ 2), (0, u "java/lang/Comparable"), (0, .class_ 4), (0, u "java/lang/Object")] 7

/-- java/lang/Comparable -/
def k3 : Class := { plain "java/lang/Comparable" (some 0) with
  accessFlags := 1537
  interfaces := #[]
  cf := some (fileOf pool3 1 #[] #[] 1537 3 #[] #[])
  fields := #[]
  methods := #[]
  instanceTypes := #[]
  staticTypes := #[]
  resolved := Array.replicate 12 none
  statics := none }

def pool4 : Array CpInfo := pool [(1, .class_ 2), (0, u "java/io/Serializable"), (0, .class_ 4), (0, u "java/lang/Object")] 2

/-- java/io/Serializable -/
def k4 : Class := { plain "java/io/Serializable" (some 0) with
  accessFlags := 1537
  interfaces := #[]
  cf := some (fileOf pool4 1 #[] #[] 1537 3 #[] #[])
  fields := #[]
  methods := #[]
  instanceTypes := #[]
  staticTypes := #[]
  resolved := Array.replicate 7 none
  statics := none }

def pool5 : Array CpInfo := pool [(2, .class_ 4), (1, u "java/lang/Enum"), (0, u "name"), (0, u "Ljava/lang/String;"), (2, u "ordinal"), (0, u "I"), (1, .class_ 14), (1, u "java/lang/Object"), (4, u "hash"), (86, .class_ 108), (1, u "java/lang/Enum$EnumDesc"), (2, .class_ 112), (0, u "java/lang/constant/Constable"), (0, .class_ 114), (0, u "java/lang/Comparable"), (0, .class_ 116), (0, u "java/io/Serializable")] 87

/-- java/lang/Enum -/
def k5 : Class := { plain "java/lang/Enum" (some 0) with
  accessFlags := 1057
  interfaces := #[2, 3, 4]
  cf := some (fileOf pool5 2 #[.nestMembers #[106]] #[] 1057 12 #[111, 113, 115] #[{ accessFlags := 18, nameIndex := 5, descriptorIndex := 6, attributes := #[] }, { accessFlags := 18, nameIndex := 9, descriptorIndex := 10, attributes := #[] }, { accessFlags := 2, nameIndex := 19, descriptorIndex := 10, attributes := #[] }])
  fields := #[{ name := "name", type := (.object "java/lang/String"), accessFlags := 18, slot := 0, constantValue := 0 }, { name := "ordinal", type := .int, accessFlags := 18, slot := 1, constantValue := 0 }, { name := "hash", type := .int, accessFlags := 2, slot := 2, constantValue := 0 }]
  methods := #[]
  instanceTypes := #[(.object "java/lang/String"), .int, .int]
  staticTypes := #[]
  resolved := Array.replicate 204 none
  statics := none }

def pool6 : Array CpInfo := pool [(1, .class_ 2), (0, u "com/example/roundkeeper/roundkeeper/rulesets/sealedorders/Weapon$Loading"), (2, u "NONE"), (0, u "Lcom/example/roundkeeper/roundkeeper/rulesets/sealedorders/Weapon$Loading;"), (2, u "THROWN"), (2, u "QUICK_RELOAD"), (2, u "COMPLEX_RELOAD"), (2, u "$VALUES"), (0, u "[Lcom/example/roundkeeper/roundkeeper/rulesets/sealedorders/Weapon$Loading;"), (6, .class_ 28), (1, u "java/lang/Enum"), (8, u "spent"), (0, u "Ljava/lang/String;"), (34, .class_ 74), (0, u "com/example/roundkeeper/roundkeeper/rulesets/sealedorders/Weapon")] 2

/-- com/example/roundkeeper/roundkeeper/rulesets/sealedorders/Weapon$Loading -/
def k6 : Class := { plain "com/example/roundkeeper/roundkeeper/rulesets/sealedorders/Weapon$Loading" (some 5) with
  accessFlags := 16432
  interfaces := #[]
  cf := some (fileOf pool6 1 #[.nestHost 73] #[] 16432 26 #[] #[{ accessFlags := 16409, nameIndex := 5, descriptorIndex := 6, attributes := #[] }, { accessFlags := 16409, nameIndex := 9, descriptorIndex := 6, attributes := #[] }, { accessFlags := 16409, nameIndex := 12, descriptorIndex := 6, attributes := #[] }, { accessFlags := 16409, nameIndex := 15, descriptorIndex := 6, attributes := #[] }, { accessFlags := 18, nameIndex := 37, descriptorIndex := 38, attributes := #[] }, { accessFlags := 4122, nameIndex := 18, descriptorIndex := 19, attributes := #[] }])
  fields := #[{ name := "NONE", type := (.object "com/example/roundkeeper/roundkeeper/rulesets/sealedorders/Weapon$Loading"), accessFlags := 16409, slot := 0, constantValue := 0 }, { name := "THROWN", type := (.object "com/example/roundkeeper/roundkeeper/rulesets/sealedorders/Weapon$Loading"), accessFlags := 16409, slot := 1, constantValue := 0 }, { name := "QUICK_RELOAD", type := (.object "com/example/roundkeeper/roundkeeper/rulesets/sealedorders/Weapon$Loading"), accessFlags := 16409, slot := 2, constantValue := 0 }, { name := "COMPLEX_RELOAD", type := (.object "com/example/roundkeeper/roundkeeper/rulesets/sealedorders/Weapon$Loading"), accessFlags := 16409, slot := 3, constantValue := 0 }, { name := "spent", type := (.object "java/lang/String"), accessFlags := 18, slot := 3, constantValue := 0 }, { name := "$VALUES", type := (.array (.object "com/example/roundkeeper/roundkeeper/rulesets/sealedorders/Weapon$Loading")), accessFlags := 4122, slot := 4, constantValue := 0 }]
  methods := #[]
  instanceTypes := #[(.object "java/lang/String"), .int, .int, (.object "java/lang/String")]
  staticTypes := #[(.object "com/example/roundkeeper/roundkeeper/rulesets/sealedorders/Weapon$Loading"), (.object "com/example/roundkeeper/roundkeeper/rulesets/sealedorders/Weapon$Loading"), (.object "com/example/roundkeeper/roundkeeper/rulesets/sealedorders/Weapon$Loading"), (.object "com/example/roundkeeper/roundkeeper/rulesets/sealedorders/Weapon$Loading"), (.array (.object "com/example/roundkeeper/roundkeeper/rulesets/sealedorders/Weapon$Loading"))]
  resolved := Array.replicate 77 none
  statics := some 0 }

def pool7 : Array CpInfo := pool [(1, .methodref 2 3), (0, .class_ 4), (0, .nameAndType 5 6), (0, u "java/lang/Object"), (0, u "<init>"), (0, u "()V"), (0, .class_ 8), (0, u "java/lang/Record")] 13

def k7c0 : Code := { maxStack := 1, maxLocals := 1, code := jdk_30_method_1_code, exceptionTable := #[], attributes := #[] }
def k7m0 : Method := { name := "<init>", desc := "()V", sig := { parameters := [], returnType := none }, accessFlags := 4, code := some k7c0 }
/-- java/lang/Record -/
def k7 : Class := { plain "java/lang/Record" (some 0) with
  accessFlags := 1057
  interfaces := #[]
  cf := some (fileOf pool7 7 #[] #[{ accessFlags := 4, nameIndex := 5, descriptorIndex := 6, attributes := #[] }] 1057 2 #[] #[])
  fields := #[]
  methods := #[k7m0]
  instanceTypes := #[]
  staticTypes := #[]
  resolved := Array.replicate 22 none
  statics := none }

def pool8 : Array CpInfo := pool [(1, .methodref 2 3), (0, .class_ 4), (0, .nameAndType 5 6), (0, u "java/lang/Record"), (0, u "<init>"), (0, u "()V"), (0, .fieldref 8 9), (0, .class_ 10), (0, .nameAndType 11 12), (0, u "com/example/roundkeeper/roundkeeper/rulesets/sealedorders/Weapon$Shot"), (0, u "range"), (0, u "I"), (0, .fieldref 8 14), (0, .nameAndType 15 16), (0, u "loading"), (0, u "Lcom/example/roundkeeper/roundkeeper/rulesets/sealedorders/Weapon$Loading;"), (0, .fieldref 8 18), (0, .nameAndType 19 20), (0, u "wounding"), (0, u "Z"), (0, .long 4), (21, u "MAX_INCREMENTS"), (2, u "PER_INCREMENT"), (1, u "(ILcom/example/roundkeeper/roundkeeper/rulesets/sealedorders/Weapon$Loading;Z)V"), (3, u "reaches"), (0, u "(J)Z"), (11, .class_ 66), (0, u "com/example/roundkeeper/roundkeeper/rulesets/sealedorders/Weapon")] 24

def k8c0 : Code := { maxStack := 2, maxLocals := 4, code := prog_39_method_1_code, exceptionTable := #[], attributes := #[] }
def k8m0 : Method := { name := "<init>", desc := "(ILcom/example/roundkeeper/roundkeeper/rulesets/sealedorders/Weapon$Loading;Z)V", sig := { parameters := [.int, (.object "com/example/roundkeeper/roundkeeper/rulesets/sealedorders/Weapon$Loading"), .boolean], returnType := none }, accessFlags := 0, code := some k8c0 }
def k8c1 : Code := { maxStack := 6, maxLocals := 3, code := prog_39_method_2_code, exceptionTable := #[], attributes := #[] }
def k8m1 : Method := { name := "reaches", desc := "(J)Z", sig := { parameters := [.long], returnType := some .boolean }, accessFlags := 0, code := some k8c1 }
/-- com/example/roundkeeper/roundkeeper/rulesets/sealedorders/Weapon$Shot -/
def k8 : Class := { plain "com/example/roundkeeper/roundkeeper/rulesets/sealedorders/Weapon$Shot" (some 7) with
  accessFlags := 48
  interfaces := #[]
  cf := some (fileOf pool8 8 #[.nestHost 65] #[{ accessFlags := 0, nameIndex := 5, descriptorIndex := 48, attributes := #[] }, { accessFlags := 0, nameIndex := 52, descriptorIndex := 53, attributes := #[] }] 48 2 #[] #[{ accessFlags := 18, nameIndex := 11, descriptorIndex := 12, attributes := #[] }, { accessFlags := 18, nameIndex := 15, descriptorIndex := 16, attributes := #[] }, { accessFlags := 18, nameIndex := 19, descriptorIndex := 20, attributes := #[] }, { accessFlags := 26, nameIndex := 43, descriptorIndex := 12, attributes := #[] }, { accessFlags := 26, nameIndex := 46, descriptorIndex := 12, attributes := #[] }])
  fields := #[{ name := "range", type := .int, accessFlags := 18, slot := 0, constantValue := 0 }, { name := "loading", type := (.object "com/example/roundkeeper/roundkeeper/rulesets/sealedorders/Weapon$Loading"), accessFlags := 18, slot := 1, constantValue := 0 }, { name := "wounding", type := .boolean, accessFlags := 18, slot := 2, constantValue := 0 }, { name := "MAX_INCREMENTS", type := .int, accessFlags := 26, slot := 0, constantValue := 0 }, { name := "PER_INCREMENT", type := .int, accessFlags := 26, slot := 1, constantValue := 0 }]
  methods := #[k8m0, k8m1]
  instanceTypes := #[.int, (.object "com/example/roundkeeper/roundkeeper/rulesets/sealedorders/Weapon$Loading"), .boolean]
  staticTypes := #[.int, .int]
  resolved := Array.replicate 91 none
  statics := none }

def pool9 : Array CpInfo := pool [(1, u "java/lang/Cloneable"), (0, .class_ 1), (0, u "java/lang/Object"), (0, .class_ 3)] 3

/-- java/lang/Cloneable -/
def k9 : Class := { plain "java/lang/Cloneable" (some 0) with
  accessFlags := 1537
  interfaces := #[]
  cf := some (fileOf pool9 2 #[] #[] 1537 4 #[] #[])
  fields := #[]
  methods := #[]
  instanceTypes := #[]
  staticTypes := #[]
  resolved := Array.replicate 8 none
  statics := none }

/-- the primitive byte -/
def k10 : Class := { plain "byte" none with kind := .primitive 'B', accessFlags := 0x411 }
/-- [B -/
def k11 : Class := { plain "[B" (some 0) with kind := .array 10 .byte, interfaces := #[9, 4], accessFlags := 1041 }

/-- the primitive int -/
def k12 : Class := { plain "int" none with kind := .primitive 'I', accessFlags := 0x411 }
/-- [I -/
def k13 : Class := { plain "[I" (some 0) with kind := .array 12 .int, interfaces := #[9, 4], accessFlags := 1041 }

def heap : Heap := #[{ cls := 6, slots := #[.ref 1, .ref 2, .ref 3, .ref 4, .null], vm := .statics 6 },
  { cls := 6, slots := #[.null, .int 0, .int 0, .null], vm := .none },
  { cls := 6, slots := #[.null, .int 1, .int 0, .null], vm := .none },
  { cls := 6, slots := #[.null, .int 2, .int 0, .null], vm := .none },
  { cls := 6, slots := #[.null, .int 3, .int 0, .null], vm := .none }]
def classes : Array Class := #[k0, k1, k2, k3, k4, k5, k6, k7, k8, k9, k10, k11, k12, k13]
def interned : List (Array UInt16 × Addr) := []
def slotsUsed : Nat := 21
def theMethod : MethodId := ⟨1, 2⟩
def args0 : Array Value := #[.int 5, .long 7, .int 1, .int 2, .int 3]
def aboutOver (below : List Frame) : State where
  vm := { classes := classes, interned := interned.toArray }
  heap := heap
  slotsUsed := slotsUsed
  threads := #[{ frames := .invoking theMethod args0 :: below }]
def below0 : List Frame := [.native { method := ⟨0, 0⟩, args := #[] }]
def about1 : State := aboutOver below0
def p0 : Program := .bare "" "" ""
def e0 : Env := launch0.env 0 0 0
theorem w_frames : about1.frames = Frame.invoking theMethod args0 :: below0 := rfl
set_option maxRecDepth 65536 in
theorem w_args : argsFit about1.vm theMethod args0 = true := by decide +kernel
set_option maxRecDepth 65536 in
theorem w_heap : heapFits about1 = true := by decide +kernel
set_option maxRecDepth 65536 in
theorem w_runnable : about1.curStatus? = some .runnable := by decide +kernel
set_option maxRecDepth 65536 in
theorem w_alone : about1.alone = true := by decide +kernel
set_option maxRecDepth 65536 in
theorem w_named : about1.methodNamed? x = some theMethod := by decide +kernel
set_option maxRecDepth 65536 in
theorem w_hears : about1.hears theMethod below0 = true := by decide +kernel
set_option maxRecDepth 65536 in
theorem w_ripe : about1.ripe theMethod args0 below0 = true := by decide +kernel
theorem w_running : about1.status = .running := rfl
set_option maxRecDepth 65536 in
theorem w_room : about1.hasRoom e0.platform room_1 = true :=
  launch0.hasRoom_least _ room_1 (by decide +kernel) (by decide +kernel) (by decide +kernel) (by decide +kernel) (by decide +kernel) (by decide +kernel)
theorem allAtoms_all (ts : List Jvm.Cond) (a : Array Jvm.Value) (st : Jvm.State) : (allAtoms ts).before a st = ts.all (fun c => c.before a st) := by
  induction ts with
  | nil => rfl
  | cons c t ih =>
    show (Jvm.Cond.and c (allAtoms t)).before a st = _
    rw [Jvm.Cond.before_and, ih, List.all_cons]
def words1 : List Jvm.Cond := Jvm.Cond.code x code maxLocals ret :: tables_1
/-- a 'code' word, met by the world's own term for the bytes: nothing is compared byte by byte -/
theorem code_word {y : MethodName} {bytes : ByteArray} {mx : Nat} {rt : Option FieldType} {a : Array Value} {s : State} {m : MethodId} {meth : Method} {c : Code} (h1 : s.methodNamed? y = some m) (h2 : s.vm.method? m = some meth) (h3 : meth.code = some c) (h4 : c.code = bytes)
    (h5 : (c.maxLocals == mx && c.exceptionTable.isEmpty && decide (c.maxStack ≤ mostOperands) && decide (meth.sig.returnType = rt) && !meth.locks && decide (parseMethodDescriptor y.desc = some meth.sig)) = true) : (Jvm.Cond.code y bytes mx rt).before a s = true := by
  simp only [Bool.and_eq_true, beq_iff_eq, Bool.not_eq_true', decide_eq_true_eq] at h5
  obtain ⟨⟨⟨⟨⟨g1, g2⟩, g3⟩, g4⟩, g5⟩, g6⟩ := h5
  simp [Cond.before, Cond.holds, Cond.value, h1, h2, h3, h4, g1, g2, g3, g4, g5, g6]
def isCode : Jvm.Cond → Bool
  | .code _ _ _ _ => true
  | _ => false
theorem all_split {L : List Jvm.Cond} {P : Jvm.Cond → Bool} (h1 : L.all (fun c => isCode c || P c) = true) (h2 : ∀ c ∈ L.filter isCode, P c = true) : L.all P = true := by
  refine List.all_eq_true.mpr fun c hc => ?_
  have h := List.all_eq_true.mp h1 c hc
  rcases Bool.eq_false_or_eq_true (isCode c) with hi | hi
  · exact h2 c (List.mem_filter.mpr ⟨hc, hi⟩)
  · simpa [hi] using h
set_option maxRecDepth 65536 in
theorem w_c0 : (Jvm.Cond.code x code maxLocals ret).before args0 about1 = true := code_word (m := ⟨1, 2⟩) (meth := k1m2) (c := k1c2) (by decide +kernel) rfl rfl rfl (by decide +kernel)
set_option maxRecDepth 65536 in
theorem w_c1 : (Jvm.Cond.code ({ cls := "com/example/roundkeeper/roundkeeper/rulesets/sealedorders/ShotReachesPinLaw", name := "pick", desc := "(I)Lcom/example/roundkeeper/roundkeeper/rulesets/sealedorders/Weapon$Loading;" } : Jvm.MethodName) method_2_code (2 : Nat) (Option.some (Jvm.ClassFile.FieldType.object "com/example/roundkeeper/roundkeeper/rulesets/sealedorders/Weapon$Loading"))).before args0 about1 = true := code_word (m := ⟨1, 1⟩) (meth := k1m1) (c := k1c1) (by decide +kernel) rfl rfl rfl (by decide +kernel)
set_option maxRecDepth 65536 in
theorem w_c2 : (Jvm.Cond.code ({ cls := "com/example/roundkeeper/roundkeeper/rulesets/sealedorders/Weapon$Shot", name := "<init>", desc := "(ILcom/example/roundkeeper/roundkeeper/rulesets/sealedorders/Weapon$Loading;Z)V" } : Jvm.MethodName) prog_39_method_1_code (4 : Nat) (Option.none : Option Jvm.ClassFile.FieldType)).before args0 about1 = true := code_word (m := ⟨8, 0⟩) (meth := k8m0) (c := k8c0) (by decide +kernel) rfl rfl rfl (by decide +kernel)
set_option maxRecDepth 65536 in
theorem w_c3 : (Jvm.Cond.code ({ cls := "java/lang/Record", name := "<init>", desc := "()V" } : Jvm.MethodName) jdk_30_method_1_code (1 : Nat) (Option.none : Option Jvm.ClassFile.FieldType)).before args0 about1 = true := code_word (m := ⟨7, 0⟩) (meth := k7m0) (c := k7c0) (by decide +kernel) rfl rfl rfl (by decide +kernel)
set_option maxRecDepth 65536 in
theorem w_c4 : (Jvm.Cond.code ({ cls := "java/lang/Object", name := "<init>", desc := "()V" } : Jvm.MethodName) object_method_1_code (1 : Nat) (Option.none : Option Jvm.ClassFile.FieldType)).before args0 about1 = true := code_word (m := ⟨0, 0⟩) (meth := k0m0) (c := k0c0) (by decide +kernel) rfl rfl rfl (by decide +kernel)
set_option maxRecDepth 65536 in
theorem w_c5 : (Jvm.Cond.code ({ cls := "com/example/roundkeeper/roundkeeper/rulesets/sealedorders/Weapon$Shot", name := "reaches", desc := "(J)Z" } : Jvm.MethodName) prog_39_method_2_code (3 : Nat) (Option.some Jvm.ClassFile.FieldType.boolean)).before args0 about1 = true := code_word (m := ⟨8, 1⟩) (meth := k8m1) (c := k8c1) (by decide +kernel) rfl rfl rfl (by decide +kernel)
def codes1 : List Jvm.Cond := [Jvm.Cond.code x code maxLocals ret, Jvm.Cond.code ({ cls := "com/example/roundkeeper/roundkeeper/rulesets/sealedorders/ShotReachesPinLaw", name := "pick", desc := "(I)Lcom/example/roundkeeper/roundkeeper/rulesets/sealedorders/Weapon$Loading;" } : Jvm.MethodName) method_2_code (2 : Nat) (Option.some (Jvm.ClassFile.FieldType.object "com/example/roundkeeper/roundkeeper/rulesets/sealedorders/Weapon$Loading")), Jvm.Cond.code ({ cls := "com/example/roundkeeper/roundkeeper/rulesets/sealedorders/Weapon$Shot", name := "<init>", desc := "(ILcom/example/roundkeeper/roundkeeper/rulesets/sealedorders/Weapon$Loading;Z)V" } : Jvm.MethodName) prog_39_method_1_code (4 : Nat) (Option.none : Option Jvm.ClassFile.FieldType), Jvm.Cond.code ({ cls := "java/lang/Record", name := "<init>", desc := "()V" } : Jvm.MethodName) jdk_30_method_1_code (1 : Nat) (Option.none : Option Jvm.ClassFile.FieldType), Jvm.Cond.code ({ cls := "java/lang/Object", name := "<init>", desc := "()V" } : Jvm.MethodName) object_method_1_code (1 : Nat) (Option.none : Option Jvm.ClassFile.FieldType), Jvm.Cond.code ({ cls := "com/example/roundkeeper/roundkeeper/rulesets/sealedorders/Weapon$Shot", name := "reaches", desc := "(J)Z" } : Jvm.MethodName) prog_39_method_2_code (3 : Nat) (Option.some Jvm.ClassFile.FieldType.boolean)]
set_option maxRecDepth 65536 in
theorem codes_eq : words1.filter isCode = codes1 := rfl
theorem w_codes : ∀ c ∈ words1.filter isCode, c.before args0 about1 = true := by
  rw [codes_eq]
  intro c hc
  simp only [codes1, List.mem_cons, List.not_mem_nil, or_false] at hc
  rcases hc with rfl | rfl | rfl | rfl | rfl | rfl
  · exact w_c0
  · exact w_c1
  · exact w_c2
  · exact w_c3
  · exact w_c4
  · exact w_c5
set_option maxRecDepth 65536 in
theorem w_t1 : (words1.take 24).all (fun c => isCode c || c.before args0 about1) = true := by decide +kernel
set_option maxRecDepth 65536 in
theorem w_t2 : (words1.drop 24).all (fun c => isCode c || c.before args0 about1) = true := by decide +kernel
theorem w_tables : (allAtoms (Jvm.Cond.code x code maxLocals ret :: tables_1)).before args0 about1 = true := by
  rw [allAtoms_all]
  show words1.all (fun c => c.before args0 about1) = true
  refine all_split ?_ w_codes
  rw [← List.take_append_drop 24 words1, List.all_append, w_t1, w_t2]
  rfl
set_option maxRecDepth 65536 in
theorem w_case : (Jvm.Cond.and given_1 narrow_1).before args0 about1 = true := by decide +kernel
theorem w_applies : (headSpec (Jvm.Cond.code x code maxLocals ret :: tables_1) room_1).applies x e0.platform about1 = true :=
  (Spec.applies_iff w_frames).mpr ⟨w_running, w_runnable, w_alone, w_named, w_hears, w_ripe, w_room, w_tables⟩
theorem atStart : AtStart classFile x code maxLocals ret World_1 tables_1 room_1 Calls_1 rest_1 Pre_1 launch0 p0 e0 about1 theMethod args0 below0 :=
  ⟨lists_1, trivial, launch0.admits_env _ _ _, launch0.least_env, fairChoices_fair.cas, fairChoices_fair.clock, w_frames, w_args, w_heap, w_applies, trivial, trivial, w_case⟩
end start1
theorem witness_1 : WitnessClaimed_1 := ⟨start1.p0, start1.e0, start1.about1, start1.theMethod, start1.args0, start1.below0, start1.atStart⟩
end Jvm.Pilot.@@N@@
