import JvmDerived
import JvmDerived.Pilot.@@N@@Statement
import JvmDerived.Pilot.@@N@@Code
set_option linter.unusedVariables false
set_option linter.unusedSimpArgs false
namespace Jvm.RoadKit
open Sem ClassFile Op Lib Jvm.Stand Jvm.Free Jvm.LawKit
section Own
variable {p : Program} {l : Launch} {e : Env} {R : Room} {s : State} {m : MethodId} {args : Array Value} {below : List Frame} {meth : Method} {c : Code} {T : State} {locs : List Loc} {cells slots : Nat} {Q : Option Value → Heap → List Loc → Prop} {k n : Nat} {A B : State} {h : Heap}
/-- from the state A the run comes to its end, with what Q says -/
def Goes (p : Program) (e : Env) (below : List Frame) (s : State) (Q : Option Value → Heap → List Loc → Prop) (k n : Nat) (A : State) : Prop :=
  ∃ s₂ o, Steps p.tables e below A s₂ ∧ s₂.status = .running ∧ Ended s₂ below o ∧ ∃ v L, o = .returned v ∧ Q v s₂.heap L ∧ FrameEnd s o s₂ L k n
theorem Goes.step (q : ∀ t, Steps p.tables e below B t → Steps p.tables e below A t) (g : Goes p e below s Q k n B) : Goes p e below s Q k n A := by
  obtain ⟨s₂, o, h1, h2⟩ := g
  exact ⟨s₂, o, q _ h1, h2⟩
theorem Goes.via (q : Steps p.tables e below A B) (g : Goes p e below s Q k n B) : Goes p e below s Q k n A := by
  obtain ⟨s₂, o, h1, h2⟩ := g
  exact ⟨s₂, o, q.trans h1, h2⟩
theorem Goes.enter {g g' : JFrame} (q : g = g') (h : Goes p e below s Q k n (T.setTop g')) : Goes p e below s Q k n (T.setTop g) := q ▸ h
theorem Goes.out (X : Stand p l e R s m args below meth c T locs cells slots) (eT : T.heap = h) {v : Option Value} (hv : meth.sig.returnType = none → v = none) (hlk : meth.locks = false)
    (hs : ∀ fs, (∀ (f : JFrame) (acts : List Action), f.method = m → f.locked = none → f.entered = [] → (doReturn e (T.setTop f) acts v).1 = T.setFrames fs) → Steps p.tables e below A (T.setFrames fs)) (hk : cells ≤ k) (hn : slots ≤ n) (hQ : Q v h locs) : Goes p e below s Q k n A := by
  obtain ⟨fs, hr, hrun, hended, hW, hsame⟩ := X.leave (v := v) hv hlk
  exact ⟨_, _, hs fs hr, hrun, hended, _, _, rfl, (by show Q v T.heap locs; rw [eT]; exact hQ), ⟨_, rfl⟩, hW, hsame.mono hk hn⟩
theorem own_some {t : FieldType} {v : Option Value} (h : meth.sig.returnType = some t) : meth.sig.returnType = none → v = none := fun q => by rw [h] at q; cases q
theorem Goes.retI (X : Stand p l e R s m args below meth c T locs cells slots) (hx : p.tables.exec = Jvm.exec) (eT : T.heap = h) {pc : Nat} {Ls : Array Slot} {z : Int32} {rest : List Value} (hret : meth.sig.returnType = some .int) (hlk : meth.locks = false) (hd : decode c.code pc = .ok (.ireturn, 1)) (hk : cells ≤ k) (hn : slots ≤ n) (hQ : Q (some (.int z)) h locs) :
    Goes p e below s Q k n (T.setTop (mkF m pc Ls (.int z :: rest))) :=
  Goes.out X eT (own_some hret) hlk (fun fs hr => retOut X hx hret rfl (Or.inl ⟨rfl, Or.inl rfl, z, rfl⟩) hd hr) hk hn hQ
theorem Goes.retN (X : Stand p l e R s m args below meth c T locs cells slots) (hx : p.tables.exec = Jvm.exec) (eT : T.heap = h) {pc : Nat} {Ls : Array Slot} {z : Int32} {t : FieldType} {rest : List Value} (hret : meth.sig.returnType = some t) (ht : t = .boolean ∨ t = .byte ∨ t = .char ∨ t = .short) (hlk : meth.locks = false) (hd : decode c.code pc = .ok (.ireturn, 1)) (hk : cells ≤ k) (hn : slots ≤ n) (hQ : Q (some (.int (nar t z))) h locs) :
    Goes p e below s Q k n (T.setTop (mkF m pc Ls (.int z :: rest))) :=
  Goes.out X eT (own_some hret) hlk (fun fs hr => Jvm.RoadKit.retN X hx hret ht hd hr) hk hn hQ
theorem Goes.retV (X : Stand p l e R s m args below meth c T locs cells slots) (hx : p.tables.exec = Jvm.exec) (eT : T.heap = h) {pc : Nat} {Ls : Array Slot} (hret : meth.sig.returnType = none) (hlk : meth.locks = false) (hd : decode c.code pc = .ok (.return_, 1)) (hk : cells ≤ k) (hn : slots ≤ n) (hQ : Q none h locs) :
    Goes p e below s Q k n (T.setTop (mkF m pc Ls [])) :=
  Goes.out X eT (fun _ => rfl) hlk (fun fs hr => X.returnOut hx hret hd hr) hk hn hQ
theorem Goes.retJ (X : Stand p l e R s m args below meth c T locs cells slots) (hx : p.tables.exec = Jvm.exec) (eT : T.heap = h) {pc : Nat} {Ls : Array Slot} {z : Int64} {rest : List Value} (hret : meth.sig.returnType = some .long) (hlk : meth.locks = false) (hd : decode c.code pc = .ok (.lreturn, 1)) (hk : cells ≤ k) (hn : slots ≤ n) (hQ : Q (some (.long z)) h locs) :
    Goes p e below s Q k n (T.setTop (mkF m pc Ls (.long z :: rest))) :=
  Goes.out X eT (own_some hret) hlk (fun fs hr => retOut X hx hret rfl (Or.inr (Or.inl ⟨rfl, rfl, z, rfl⟩)) hd hr) hk hn hQ
theorem Goes.retD (X : Stand p l e R s m args below meth c T locs cells slots) (hx : p.tables.exec = Jvm.exec) (eT : T.heap = h) {pc : Nat} {Ls : Array Slot} {z : UInt64} {rest : List Value} (hret : meth.sig.returnType = some .double) (hlk : meth.locks = false) (hd : decode c.code pc = .ok (.dreturn, 1)) (hk : cells ≤ k) (hn : slots ≤ n) (hQ : Q (some (.double z)) h locs) :
    Goes p e below s Q k n (T.setTop (mkF m pc Ls (.double z :: rest))) :=
  Goes.out X eT (own_some hret) hlk (fun fs hr => retOut X hx hret rfl (Or.inr (Or.inr (Or.inl ⟨rfl, rfl, z, rfl⟩))) hd hr) hk hn hQ
theorem own_narR {t : FieldType} {w : Value} (h : t.isReference = true) : narrow t w = w := by cases t <;> first | rfl | (cases w <;> first | rfl | cases h)
theorem Goes.retA (X : Stand p l e R s m args below meth c T locs cells slots) (hx : p.tables.exec = Jvm.exec) (eT : T.heap = h) {pc : Nat} {Ls : Array Slot} {w : Value} {t : FieldType} {rest : List Value} (hret : meth.sig.returnType = some t) (ht : t.isReference = true) (hw : w.isRef = true) (hlk : meth.locks = false) (hd : decode c.code pc = .ok (.areturn, 1)) (hk : cells ≤ k) (hn : slots ≤ n) (hQ : Q (some w) h locs) :
    Goes p e below s Q k n (T.setTop (mkF m pc Ls (w :: rest))) :=
  Goes.out X eT (own_some hret) hlk (fun fs hr => retOut X hx hret (own_narR ht) (Or.inr (Or.inr (Or.inr (Or.inr ⟨rfl, ht, hw⟩)))) hd hr) hk hn hQ
theorem own_z {Z : State} {n0 : Nat} (O : Old Z n0 h) : n0 ≤ h.size := O.1 ▸ O.2.1
end Own
end Jvm.RoadKit
namespace Jvm.Pilot.@@N@@
open Jvm Jvm.ClassFile Sem Op Lib Jvm.Free Jvm.Stand Jvm.LawKit Jvm.RoadKit Bundle Jvm.Pilot.@@N@@.Jvm.D
theorem own_5 {z : Int32} (h1 : 1 ≤ z.toInt) (h2 : z.toInt ≤ 5) : z = 1 ∨ z = 2 ∨ z = 3 ∨ z = 4 ∨ z = 5 := by
  have q : z.toInt = 1 ∨ z.toInt = 2 ∨ z.toInt = 3 ∨ z.toInt = 4 ∨ z.toInt = 5 := by omega
  rcases q with q | q | q | q | q
  · exact Or.inl (Int32.toInt_inj.mp q)
  · exact Or.inr (Or.inl (Int32.toInt_inj.mp q))
  · exact Or.inr (Or.inr (Or.inl (Int32.toInt_inj.mp q)))
  · exact Or.inr (Or.inr (Or.inr (Or.inl (Int32.toInt_inj.mp q))))
  · exact Or.inr (Or.inr (Or.inr (Or.inr (Int32.toInt_inj.mp q))))
theorem own_pl {x z : Int32} (h : z = (1 : Int32) + ((x &&& (2147483647 : Int32)) % (5 : Int32))) : z = 1 ∨ z = 2 ∨ z = 3 ∨ z = 4 ∨ z = 5 := by
  have a := c_mask x 2147483647 31 (by decide) (by decide)
  have b := (c_irem (x &&& 2147483647) 5 5 (by decide)).1 (by rw [a]; omega)
  have c := c_iadd 1 ((x &&& 2147483647) % 5)
  have d := rng32 z
  have e : (1 : Int32).toInt = 1 := by decide
  rw [← h] at c
  exact own_5 (by omega) (by omega)
def own_com (p c : Int32) : Int32 := if p = 1 then 0 else if p = 2 then 2 else if p = 3 then (if c = 0 then 1 else 2) else if p = 4 then 1 else (if c = 0 then 1 else 0)
theorem own_01 {z : Int32} (h : z = 0 ∨ z = 1) : z = 0 ∨ z = 1 := h
theorem d1_0 : decode prog_58_method_4_code 0 = .ok (.iload_n 0, 1) := by decide +kernel
theorem d1_1 : decode prog_58_method_4_code 1 = .ok (.tableswitch 55 1 4 #[31, 35, 39, 51], 31) := by decide +kernel
theorem d1_32 : decode prog_58_method_4_code 32 = .ok (.iconst 0, 1) := by decide +kernel
theorem d1_33 : decode prog_58_method_4_code 33 = .ok (.goto 32, 3) := by decide +kernel
theorem d1_65 : decode prog_58_method_4_code 65 = .ok (.ireturn, 1) := by decide +kernel
theorem d1_36 : decode prog_58_method_4_code 36 = .ok (.iconst 2, 1) := by decide +kernel
theorem d1_37 : decode prog_58_method_4_code 37 = .ok (.goto 28, 3) := by decide +kernel
theorem d1_40 : decode prog_58_method_4_code 40 = .ok (.iload_n 1, 1) := by decide +kernel
theorem d1_41 : decode prog_58_method_4_code 41 = .ok (.ifCond .eq 7, 3) := by decide +kernel
theorem d1_48 : decode prog_58_method_4_code 48 = .ok (.iconst 1, 1) := by decide +kernel
theorem d1_49 : decode prog_58_method_4_code 49 = .ok (.goto 16, 3) := by decide +kernel
theorem d1_44 : decode prog_58_method_4_code 44 = .ok (.iconst 2, 1) := by decide +kernel
theorem d1_45 : decode prog_58_method_4_code 45 = .ok (.goto 20, 3) := by decide +kernel
theorem d1_52 : decode prog_58_method_4_code 52 = .ok (.iconst 1, 1) := by decide +kernel
theorem d1_53 : decode prog_58_method_4_code 53 = .ok (.goto 12, 3) := by decide +kernel
theorem d1_56 : decode prog_58_method_4_code 56 = .ok (.iload_n 1, 1) := by decide +kernel
theorem d1_57 : decode prog_58_method_4_code 57 = .ok (.ifCond .eq 7, 3) := by decide +kernel
theorem d1_64 : decode prog_58_method_4_code 64 = .ok (.iconst 1, 1) := by decide +kernel
theorem d1_60 : decode prog_58_method_4_code 60 = .ok (.iconst 0, 1) := by decide +kernel
theorem d1_61 : decode prog_58_method_4_code 61 = .ok (.goto 4, 3) := by decide +kernel
theorem pn_TimelineRound : plainName "com/example/starlane_tabletop/starlanetabletop/rules/TimelineRound" = true := by first | (simp [plainName, overriddenIn]; done) | decide +kernel
theorem ef_rm1 (m : MethodId) (x0 : Int32) (x1 : Int32) : entryFrame m #[(.int x0), (.int x1)] 2 = mkF m 0 #[.val (.int x0), .val (.int x1)] [] := by first | (simp [entryFrame, mkF, argsToLocals, Value.category]; done) | rfl
def Q1 (Z : State) (p1 : Int32) (p2 : Int32) (h0 : Heap) (n0 : Nat) (v : Option Value) (h : Heap) (L : List Loc) : Prop := v = some (.int (own_com p1 p2)) ∧ Fr n0 L ∧ h = h0
set_option maxRecDepth 65536 in
set_option maxHeartbeats 40000000 in
theorem rm1 (l : Launch) (Z : State) (a0 : Array Value) (hw : ∀ d ∈ tables_1, d.before a0 Z = true) (ws : List Jvm.Cond) (p1 : Int32) (p2 : Int32) (h0 : Heap) (n0 : Nat) (O0 : Old Z n0 h0) (hp1 : p1 = 1 ∨ p1 = 2 ∨ p1 = 3 ∨ p1 = 4 ∨ p1 = 5) (hp2 : p2 = 0 ∨ p2 = 1) :
    MetFree l (⟨"com/example/starlane_tabletop/starlanetabletop/rules/TimelineRound", "commitments", "(IZ)I"⟩ : MethodName) (head1 (Jvm.Cond.code (⟨"com/example/starlane_tabletop/starlanetabletop/rules/TimelineRound", "commitments", "(IZ)I"⟩ : MethodName) prog_58_method_4_code 2 (some .int) :: ws) ({ frames := 0, cells := 0, slots := 0, locals := 0 } : Room)) (fun a U => a = #[(.int p1), (.int p2)] ∧ Z.Warmed39 U.vm ∧ U.heap = h0) (fun _ _ _ _ _ => True) (fun _ U o U' => ∃ v L, o = .returned v ∧ Q1 Z p1 p2 h0 n0 v U'.heap L ∧ FrameEnd U o U' L ({ frames := 0, cells := 0, slots := 0, locals := 0 } : Room).cells ({ frames := 0, cells := 0, slots := 0, locals := 0 } : Room).slots) := by
  refine MetFree.of_bodySF (plainFor_of_name pn_TimelineRound) hisR ?_
  intro p e s m args below meth c s₁ Bd hml0 hP hK
  obtain ⟨rfl, hZ, hh⟩ := hP
  have hx := Bd.exec
  have hby := Bd.bytes
  have hlk : meth.locks = false := BodyLoose.notSynchronized Bd
  have hml : c.maxLocals = 2 := hml0
  have hown : s.vm.findClass "com/example/starlane_tabletop/starlanetabletop/rules/TimelineRound" = some m.cls := findClass_of_methodNamed Bd.named
  have hnm := (name_of_methodNamed Bd.named Bd.method).1
  have X0 : Stand p l e ({ frames := 0, cells := 0, slots := 0, locals := 0 } : Room) s m #[(.int p1), (.int p2)] below meth c s₁ [] 0 0 := Stand.of_body Bd
  have e0 : s₁.heap = h0 := by rw [← hh, Bd.state]; rfl
  have N0 := Fr.nil n0
  show Goes p e below s (Q1 Z p1 p2 h0 n0) ({ frames := 0, cells := 0, slots := 0, locals := 0 } : Room).cells ({ frames := 0, cells := 0, slots := 0, locals := 0 } : Room).slots (s₁.setTop (entryFrame m #[(.int p1), (.int p2)] 2))
  refine Goes.enter (g' := (mkF m 0 #[.val (.int p1), .val (.int p2)] [])) (ef_rm1 m p1 p2) ?_
  rcases hp1 with rfl | rfl | rfl | rfl | rfl
  · rcases hp2 with rfl | rfl
    · refine Goes.step (B := s₁.setTop (mkF m 1 #[.val (.int (1 : Int32)), .val (.int (0 : Int32))] [(.int (1 : Int32))])) (fun _ k => XS.iloadN X0.here hx rfl (hb hby d1_0) rfl k) ?_
      refine Goes.step (B := s₁.setTop (mkF m 32 #[.val (.int (1 : Int32)), .val (.int (0 : Int32))] [])) (fun _ k => XS.tswIn X0.here hx rfl (pc0 := 1) (pc' := 32) (o := 31) rfl (hb hby d1_1) rfl (by decide) rfl (by decide) (by decide) k) ?_
      refine Goes.step (B := s₁.setTop (mkF m 33 #[.val (.int (1 : Int32)), .val (.int (0 : Int32))] [(.int (0 : Int32))])) (fun _ k => XS.iconst X0.here hx rfl (hb hby d1_32) k) ?_
      refine Goes.step (B := s₁.setTop (mkF m 65 #[.val (.int (1 : Int32)), .val (.int (0 : Int32))] [(.int (0 : Int32))])) (fun _ k => XS.goto X0.here hx rfl (pc0 := 33) (pc' := 65) rfl (hb hby d1_33) (by decide) (by decide) k) ?_
      exact Goes.retI X0 hx e0 Bd.returns hlk (hb hby d1_65) (by decide) (by decide) (⟨(by decide), N0, rfl⟩)
    · refine Goes.step (B := s₁.setTop (mkF m 1 #[.val (.int (1 : Int32)), .val (.int (1 : Int32))] [(.int (1 : Int32))])) (fun _ k => XS.iloadN X0.here hx rfl (hb hby d1_0) rfl k) ?_
      refine Goes.step (B := s₁.setTop (mkF m 32 #[.val (.int (1 : Int32)), .val (.int (1 : Int32))] [])) (fun _ k => XS.tswIn X0.here hx rfl (pc0 := 1) (pc' := 32) (o := 31) rfl (hb hby d1_1) rfl (by decide) rfl (by decide) (by decide) k) ?_
      refine Goes.step (B := s₁.setTop (mkF m 33 #[.val (.int (1 : Int32)), .val (.int (1 : Int32))] [(.int (0 : Int32))])) (fun _ k => XS.iconst X0.here hx rfl (hb hby d1_32) k) ?_
      refine Goes.step (B := s₁.setTop (mkF m 65 #[.val (.int (1 : Int32)), .val (.int (1 : Int32))] [(.int (0 : Int32))])) (fun _ k => XS.goto X0.here hx rfl (pc0 := 33) (pc' := 65) rfl (hb hby d1_33) (by decide) (by decide) k) ?_
      exact Goes.retI X0 hx e0 Bd.returns hlk (hb hby d1_65) (by decide) (by decide) (⟨(by decide), N0, rfl⟩)
  · rcases hp2 with rfl | rfl
    · refine Goes.step (B := s₁.setTop (mkF m 1 #[.val (.int (2 : Int32)), .val (.int (0 : Int32))] [(.int (2 : Int32))])) (fun _ k => XS.iloadN X0.here hx rfl (hb hby d1_0) rfl k) ?_
      refine Goes.step (B := s₁.setTop (mkF m 36 #[.val (.int (2 : Int32)), .val (.int (0 : Int32))] [])) (fun _ k => XS.tswIn X0.here hx rfl (pc0 := 1) (pc' := 36) (o := 35) rfl (hb hby d1_1) rfl (by decide) rfl (by decide) (by decide) k) ?_
      refine Goes.step (B := s₁.setTop (mkF m 37 #[.val (.int (2 : Int32)), .val (.int (0 : Int32))] [(.int (2 : Int32))])) (fun _ k => XS.iconst X0.here hx rfl (hb hby d1_36) k) ?_
      refine Goes.step (B := s₁.setTop (mkF m 65 #[.val (.int (2 : Int32)), .val (.int (0 : Int32))] [(.int (2 : Int32))])) (fun _ k => XS.goto X0.here hx rfl (pc0 := 37) (pc' := 65) rfl (hb hby d1_37) (by decide) (by decide) k) ?_
      exact Goes.retI X0 hx e0 Bd.returns hlk (hb hby d1_65) (by decide) (by decide) (⟨(by decide), N0, rfl⟩)
    · refine Goes.step (B := s₁.setTop (mkF m 1 #[.val (.int (2 : Int32)), .val (.int (1 : Int32))] [(.int (2 : Int32))])) (fun _ k => XS.iloadN X0.here hx rfl (hb hby d1_0) rfl k) ?_
      refine Goes.step (B := s₁.setTop (mkF m 36 #[.val (.int (2 : Int32)), .val (.int (1 : Int32))] [])) (fun _ k => XS.tswIn X0.here hx rfl (pc0 := 1) (pc' := 36) (o := 35) rfl (hb hby d1_1) rfl (by decide) rfl (by decide) (by decide) k) ?_
      refine Goes.step (B := s₁.setTop (mkF m 37 #[.val (.int (2 : Int32)), .val (.int (1 : Int32))] [(.int (2 : Int32))])) (fun _ k => XS.iconst X0.here hx rfl (hb hby d1_36) k) ?_
      refine Goes.step (B := s₁.setTop (mkF m 65 #[.val (.int (2 : Int32)), .val (.int (1 : Int32))] [(.int (2 : Int32))])) (fun _ k => XS.goto X0.here hx rfl (pc0 := 37) (pc' := 65) rfl (hb hby d1_37) (by decide) (by decide) k) ?_
      exact Goes.retI X0 hx e0 Bd.returns hlk (hb hby d1_65) (by decide) (by decide) (⟨(by decide), N0, rfl⟩)
  · rcases hp2 with rfl | rfl
    · refine Goes.step (B := s₁.setTop (mkF m 1 #[.val (.int (3 : Int32)), .val (.int (0 : Int32))] [(.int (3 : Int32))])) (fun _ k => XS.iloadN X0.here hx rfl (hb hby d1_0) rfl k) ?_
      refine Goes.step (B := s₁.setTop (mkF m 40 #[.val (.int (3 : Int32)), .val (.int (0 : Int32))] [])) (fun _ k => XS.tswIn X0.here hx rfl (pc0 := 1) (pc' := 40) (o := 39) rfl (hb hby d1_1) rfl (by decide) rfl (by decide) (by decide) k) ?_
      refine Goes.step (B := s₁.setTop (mkF m 41 #[.val (.int (3 : Int32)), .val (.int (0 : Int32))] [(.int (0 : Int32))])) (fun _ k => XS.iloadN X0.here hx rfl (hb hby d1_40) rfl k) ?_
      refine Goes.step (B := s₁.setTop (mkF m 48 #[.val (.int (3 : Int32)), .val (.int (0 : Int32))] [])) (fun _ k => XS.ifYes X0.here hx rfl (pc0 := 41) (pc' := 48) rfl (hb hby d1_41) rfl ((if0 _ _).trans (teq (by decide)).1) (by decide) (by decide) k) ?_
      refine Goes.step (B := s₁.setTop (mkF m 49 #[.val (.int (3 : Int32)), .val (.int (0 : Int32))] [(.int (1 : Int32))])) (fun _ k => XS.iconst X0.here hx rfl (hb hby d1_48) k) ?_
      refine Goes.step (B := s₁.setTop (mkF m 65 #[.val (.int (3 : Int32)), .val (.int (0 : Int32))] [(.int (1 : Int32))])) (fun _ k => XS.goto X0.here hx rfl (pc0 := 49) (pc' := 65) rfl (hb hby d1_49) (by decide) (by decide) k) ?_
      exact Goes.retI X0 hx e0 Bd.returns hlk (hb hby d1_65) (by decide) (by decide) (⟨(by decide), N0, rfl⟩)
    · refine Goes.step (B := s₁.setTop (mkF m 1 #[.val (.int (3 : Int32)), .val (.int (1 : Int32))] [(.int (3 : Int32))])) (fun _ k => XS.iloadN X0.here hx rfl (hb hby d1_0) rfl k) ?_
      refine Goes.step (B := s₁.setTop (mkF m 40 #[.val (.int (3 : Int32)), .val (.int (1 : Int32))] [])) (fun _ k => XS.tswIn X0.here hx rfl (pc0 := 1) (pc' := 40) (o := 39) rfl (hb hby d1_1) rfl (by decide) rfl (by decide) (by decide) k) ?_
      refine Goes.step (B := s₁.setTop (mkF m 41 #[.val (.int (3 : Int32)), .val (.int (1 : Int32))] [(.int (1 : Int32))])) (fun _ k => XS.iloadN X0.here hx rfl (hb hby d1_40) rfl k) ?_
      refine Goes.step (B := s₁.setTop (mkF m 44 #[.val (.int (3 : Int32)), .val (.int (1 : Int32))] [])) (fun _ k => XS.ifNo X0.here hx rfl (hb hby d1_41) rfl ((if0 _ _).trans (feq (by decide)).1) k) ?_
      refine Goes.step (B := s₁.setTop (mkF m 45 #[.val (.int (3 : Int32)), .val (.int (1 : Int32))] [(.int (2 : Int32))])) (fun _ k => XS.iconst X0.here hx rfl (hb hby d1_44) k) ?_
      refine Goes.step (B := s₁.setTop (mkF m 65 #[.val (.int (3 : Int32)), .val (.int (1 : Int32))] [(.int (2 : Int32))])) (fun _ k => XS.goto X0.here hx rfl (pc0 := 45) (pc' := 65) rfl (hb hby d1_45) (by decide) (by decide) k) ?_
      exact Goes.retI X0 hx e0 Bd.returns hlk (hb hby d1_65) (by decide) (by decide) (⟨(by decide), N0, rfl⟩)
  · rcases hp2 with rfl | rfl
    · refine Goes.step (B := s₁.setTop (mkF m 1 #[.val (.int (4 : Int32)), .val (.int (0 : Int32))] [(.int (4 : Int32))])) (fun _ k => XS.iloadN X0.here hx rfl (hb hby d1_0) rfl k) ?_
      refine Goes.step (B := s₁.setTop (mkF m 52 #[.val (.int (4 : Int32)), .val (.int (0 : Int32))] [])) (fun _ k => XS.tswIn X0.here hx rfl (pc0 := 1) (pc' := 52) (o := 51) rfl (hb hby d1_1) rfl (by decide) rfl (by decide) (by decide) k) ?_
      refine Goes.step (B := s₁.setTop (mkF m 53 #[.val (.int (4 : Int32)), .val (.int (0 : Int32))] [(.int (1 : Int32))])) (fun _ k => XS.iconst X0.here hx rfl (hb hby d1_52) k) ?_
      refine Goes.step (B := s₁.setTop (mkF m 65 #[.val (.int (4 : Int32)), .val (.int (0 : Int32))] [(.int (1 : Int32))])) (fun _ k => XS.goto X0.here hx rfl (pc0 := 53) (pc' := 65) rfl (hb hby d1_53) (by decide) (by decide) k) ?_
      exact Goes.retI X0 hx e0 Bd.returns hlk (hb hby d1_65) (by decide) (by decide) (⟨(by decide), N0, rfl⟩)
    · refine Goes.step (B := s₁.setTop (mkF m 1 #[.val (.int (4 : Int32)), .val (.int (1 : Int32))] [(.int (4 : Int32))])) (fun _ k => XS.iloadN X0.here hx rfl (hb hby d1_0) rfl k) ?_
      refine Goes.step (B := s₁.setTop (mkF m 52 #[.val (.int (4 : Int32)), .val (.int (1 : Int32))] [])) (fun _ k => XS.tswIn X0.here hx rfl (pc0 := 1) (pc' := 52) (o := 51) rfl (hb hby d1_1) rfl (by decide) rfl (by decide) (by decide) k) ?_
      refine Goes.step (B := s₁.setTop (mkF m 53 #[.val (.int (4 : Int32)), .val (.int (1 : Int32))] [(.int (1 : Int32))])) (fun _ k => XS.iconst X0.here hx rfl (hb hby d1_52) k) ?_
      refine Goes.step (B := s₁.setTop (mkF m 65 #[.val (.int (4 : Int32)), .val (.int (1 : Int32))] [(.int (1 : Int32))])) (fun _ k => XS.goto X0.here hx rfl (pc0 := 53) (pc' := 65) rfl (hb hby d1_53) (by decide) (by decide) k) ?_
      exact Goes.retI X0 hx e0 Bd.returns hlk (hb hby d1_65) (by decide) (by decide) (⟨(by decide), N0, rfl⟩)
  · rcases hp2 with rfl | rfl
    · refine Goes.step (B := s₁.setTop (mkF m 1 #[.val (.int (5 : Int32)), .val (.int (0 : Int32))] [(.int (5 : Int32))])) (fun _ k => XS.iloadN X0.here hx rfl (hb hby d1_0) rfl k) ?_
      refine Goes.step (B := s₁.setTop (mkF m 56 #[.val (.int (5 : Int32)), .val (.int (0 : Int32))] [])) (fun _ k => XS.tswOut X0.here hx rfl (pc0 := 1) (pc' := 56) rfl (hb hby d1_1) rfl (by decide) (by decide) (by decide) k) ?_
      refine Goes.step (B := s₁.setTop (mkF m 57 #[.val (.int (5 : Int32)), .val (.int (0 : Int32))] [(.int (0 : Int32))])) (fun _ k => XS.iloadN X0.here hx rfl (hb hby d1_56) rfl k) ?_
      refine Goes.step (B := s₁.setTop (mkF m 64 #[.val (.int (5 : Int32)), .val (.int (0 : Int32))] [])) (fun _ k => XS.ifYes X0.here hx rfl (pc0 := 57) (pc' := 64) rfl (hb hby d1_57) rfl ((if0 _ _).trans (teq (by decide)).1) (by decide) (by decide) k) ?_
      refine Goes.step (B := s₁.setTop (mkF m 65 #[.val (.int (5 : Int32)), .val (.int (0 : Int32))] [(.int (1 : Int32))])) (fun _ k => XS.iconst X0.here hx rfl (hb hby d1_64) k) ?_
      exact Goes.retI X0 hx e0 Bd.returns hlk (hb hby d1_65) (by decide) (by decide) (⟨(by decide), N0, rfl⟩)
    · refine Goes.step (B := s₁.setTop (mkF m 1 #[.val (.int (5 : Int32)), .val (.int (1 : Int32))] [(.int (5 : Int32))])) (fun _ k => XS.iloadN X0.here hx rfl (hb hby d1_0) rfl k) ?_
      refine Goes.step (B := s₁.setTop (mkF m 56 #[.val (.int (5 : Int32)), .val (.int (1 : Int32))] [])) (fun _ k => XS.tswOut X0.here hx rfl (pc0 := 1) (pc' := 56) rfl (hb hby d1_1) rfl (by decide) (by decide) (by decide) k) ?_
      refine Goes.step (B := s₁.setTop (mkF m 57 #[.val (.int (5 : Int32)), .val (.int (1 : Int32))] [(.int (1 : Int32))])) (fun _ k => XS.iloadN X0.here hx rfl (hb hby d1_56) rfl k) ?_
      refine Goes.step (B := s₁.setTop (mkF m 60 #[.val (.int (5 : Int32)), .val (.int (1 : Int32))] [])) (fun _ k => XS.ifNo X0.here hx rfl (hb hby d1_57) rfl ((if0 _ _).trans (feq (by decide)).1) k) ?_
      refine Goes.step (B := s₁.setTop (mkF m 61 #[.val (.int (5 : Int32)), .val (.int (1 : Int32))] [(.int (0 : Int32))])) (fun _ k => XS.iconst X0.here hx rfl (hb hby d1_60) k) ?_
      refine Goes.step (B := s₁.setTop (mkF m 65 #[.val (.int (5 : Int32)), .val (.int (1 : Int32))] [(.int (0 : Int32))])) (fun _ k => XS.goto X0.here hx rfl (pc0 := 61) (pc' := 65) rfl (hb hby d1_61) (by decide) (by decide) k) ?_
      exact Goes.retI X0 hx e0 Bd.returns hlk (hb hby d1_65) (by decide) (by decide) (⟨(by decide), N0, rfl⟩)
theorem pd_0 : parseMethodDescriptor "(IZ)I" = some ⟨[.int, .boolean], some .int⟩ := by decide +kernel
theorem pn_TimelineRoundCommitmentsPinLaw : plainName "com/example/starlane_tabletop/starlanetabletop/rules/TimelineRoundCommitmentsPinLaw" = true := by first | (simp [plainName, overriddenIn]; done) | decide +kernel
theorem ef_rm0 (m : MethodId) (x0 : Int32) : entryFrame m #[(.int x0)] maxLocals = mkF m 0 #[.val (.int x0), .unset, .unset, .unset] [] := by first | (simp [entryFrame, mkF, argsToLocals, Value.category, maxLocals]; done) | rfl
def Q0 (Z : State) (i0 : Int32) (h0 : Heap) (n0 : Nat) (v : Option Value) (h : Heap) (L : List Loc) : Prop := v = some (.int 1) ∧ Fr n0 L
set_option maxRecDepth 65536 in
set_option maxHeartbeats 40000000 in
theorem rm0 (l : Launch) (Z : State) (a0 : Array Value) (hw : ∀ d ∈ tables_1, d.before a0 Z = true) (ws : List Jvm.Cond) (i0 : Int32) (h0 : Heap) (n0 : Nat) (O0 : Old Z n0 h0) :
    MetFree l x (head1 (Jvm.Cond.code x code maxLocals ret :: ws) room_1) (fun a U => a = #[(.int i0)] ∧ Z.Warmed39 U.vm ∧ U.heap = h0) (fun _ _ _ _ _ => True) (fun _ U o U' => ∃ v L, o = .returned v ∧ Q0 Z i0 h0 n0 v U'.heap L ∧ FrameEnd U o U' L room_1.cells room_1.slots) := by
  refine MetFree.of_bodySF (plainFor_of_name pn_TimelineRoundCommitmentsPinLaw) hisR ?_
  intro p e s m args below meth c s₁ Bd hml0 hP hK
  obtain ⟨rfl, hZ, hh⟩ := hP
  have hx := Bd.exec
  have hby := Bd.bytes
  have hlk : meth.locks = false := BodyLoose.notSynchronized Bd
  have hml : c.maxLocals = 4 := hml0
  have hown : s.vm.findClass "com/example/starlane_tabletop/starlanetabletop/rules/TimelineRoundCommitmentsPinLaw" = some m.cls := findClass_of_methodNamed Bd.named
  have hnm := (name_of_methodNamed Bd.named Bd.method).1
  have X0 : Stand p l e room_1 s m #[(.int i0)] below meth c s₁ [] 0 0 := Stand.of_body Bd
  have e0 : s₁.heap = h0 := by rw [← hh, Bd.state]; rfl
  have N0 := Fr.nil n0
  show Goes p e below s (Q0 Z i0 h0 n0) room_1.cells room_1.slots (s₁.setTop (entryFrame m #[(.int i0)] maxLocals))
  refine Goes.enter (g' := (mkF m 0 #[.val (.int i0), .unset, .unset, .unset] [])) (ef_rm0 m i0) ?_
  refine Goes.step (B := s₁.setTop (mkF m 1 #[.val (.int i0), .unset, .unset, .unset] [(.int (1 : Int32))])) (fun _ k => XS.iconst X0.here hx rfl (hb hby at_0) k) ?_
  refine Goes.step (B := s₁.setTop (mkF m 2 #[.val (.int i0), .unset, .unset, .unset] [(.int i0), (.int (1 : Int32))])) (fun _ k => XS.iloadN X0.here hx rfl (hb hby at_1) rfl k) ?_
  refine Goes.step (B := s₁.setTop (mkF m 4 #[.val (.int i0), .unset, .unset, .unset] [(.int (2147483647 : Int32)), (.int i0), (.int (1 : Int32))])) (X0.ldcInt hx hown (mvT hZ (hw _ (List.mem_of_getElem? (i := 0) rfl))) (g := (mkF m 2 #[.val (.int i0), .unset, .unset, .unset] [(.int i0), (.int (1 : Int32))])) rfl (hb hby at_2)) ?_
  refine Goes.step (B := s₁.setTop (mkF m 5 #[.val (.int i0), .unset, .unset, .unset] [(.int (i0 &&& (2147483647 : Int32))), (.int (1 : Int32))])) (fun _ k => XS.iand X0.here hx rfl (hb hby at_4) rfl k) ?_
  refine Goes.step (B := s₁.setTop (mkF m 6 #[.val (.int i0), .unset, .unset, .unset] [(.int (5 : Int32)), (.int (i0 &&& (2147483647 : Int32))), (.int (1 : Int32))])) (fun _ k => XS.iconst X0.here hx rfl (hb hby at_5) k) ?_
  refine Goes.step (B := s₁.setTop (mkF m 7 #[.val (.int i0), .unset, .unset, .unset] [(.int ((i0 &&& (2147483647 : Int32)) % (5 : Int32))), (.int (1 : Int32))])) (fun _ k => iremM X0 hx rfl (hb hby at_6) rfl (by decide) k) ?_
  refine Goes.step (B := s₁.setTop (mkF m 8 #[.val (.int i0), .unset, .unset, .unset] [(.int ((1 : Int32) + ((i0 &&& (2147483647 : Int32)) % (5 : Int32))))])) (fun _ k => XS.iadd X0.here hx rfl (hb hby at_7) rfl k) ?_
  obtain ⟨pl, hpl⟩ : ∃ z, z = ((1 : Int32) + ((i0 &&& (2147483647 : Int32)) % (5 : Int32))) := ⟨_, rfl⟩
  rw [← hpl]
  rcases own_pl hpl with rfl | rfl | rfl | rfl | rfl
  · refine Goes.step (B := s₁.setTop (mkF m 9 #[.val (.int i0), .val (.int (1 : Int32)), .unset, .unset] [])) (fun _ k => XS.istoreN X0.here hx rfl (hb hby at_8) rfl (l' := #[.val (.int i0), .val (.int (1 : Int32)), .unset, .unset]) rfl k) ?_
    refine Goes.step (B := s₁.setTop (mkF m 10 #[.val (.int i0), .val (.int (1 : Int32)), .unset, .unset] [(.int (1 : Int32))])) (fun _ k => XS.iloadN X0.here hx rfl (hb hby at_9) rfl k) ?_
    refine Goes.step (B := s₁.setTop (mkF m 11 #[.val (.int i0), .val (.int (1 : Int32)), .unset, .unset] [(.int (1 : Int32)), (.int (1 : Int32))])) (fun _ k => XS.iconst X0.here hx rfl (hb hby at_10) k) ?_
    obtain ⟨_, _, ⟨T1, L1, k1, n1⟩, -, X1, ⟨Lc1, hQ1, l1, y1, z1⟩, st1⟩ := Jvm.LawKit.callS X0 hx (y := (⟨"com/example/starlane_tabletop/starlanetabletop/rules/TimelineRound", "commitments", "(IZ)I"⟩ : MethodName)) hown (mvT hZ (hw _ (List.mem_of_getElem? (i := 1) rfl))) (mvT hZ (hw _ (List.mem_of_getElem? (i := 2) rfl))) (mvT hZ (hw _ (List.mem_of_getElem? (i := 3) rfl))) (mvT hZ (hw _ (List.mem_of_getElem? (i := 4) rfl))) (by decide) (backOf (W := 0) (rm1 l Z a0 hw [] (1 : Int32) (1 : Int32) h0 n0 O0 (by decide) (by decide)) hZ (hw _ (List.mem_of_getElem? (i := 4) rfl)) (hw _ (List.mem_of_getElem? (i := 3) rfl)) (by decide) (by decide)) (g := (mkF m 11 #[.val (.int i0), .val (.int (1 : Int32)), .unset, .unset] [(.int (1 : Int32)), (.int (1 : Int32))])) rfl (by rw [hml]; rfl) (argsL := [(.int (1 : Int32)), (.int (1 : Int32))]) (rest := []) (lenOf pd_0 rfl) rfl (by show 2 * 0 + _ ≤ _; exact Nat.le_of_eq rfl) (hb hby at_11) (fun _ _ => ⟨rfl, e0, (by decide : 0 + 0 ≤ _), (by decide : 0 + 0 ≤ _)⟩)
    dsimp only [Pt.U, Pt.locs, Pt.cells, Pt.slots] at X1 l1 y1 z1 st1 hQ1
    subst l1 y1 z1
    obtain ⟨rfl, Nq1, eh1⟩ := hQ1
    have N1 := Fr.app N0 Nq1
    refine Goes.step (B := T1.setTop (mkF m 14 #[.val (.int i0), .val (.int (1 : Int32)), .unset, .unset] [(.int (own_com (1 : Int32) (1 : Int32)))])) st1 ?_
    rw [(by decide : (own_com (1 : Int32) (1 : Int32)) = (0 : Int32))]
    refine Goes.step (B := T1.setTop (mkF m 15 #[.val (.int i0), .val (.int (1 : Int32)), .val (.int (0 : Int32)), .unset] [])) (fun _ k => XS.istoreN X1.here hx rfl (hb hby at_14) rfl (l' := #[.val (.int i0), .val (.int (1 : Int32)), .val (.int (0 : Int32)), .unset]) rfl k) ?_
    refine Goes.step (B := T1.setTop (mkF m 16 #[.val (.int i0), .val (.int (1 : Int32)), .val (.int (0 : Int32)), .unset] [(.int (1 : Int32))])) (fun _ k => XS.iloadN X1.here hx rfl (hb hby at_15) rfl k) ?_
    refine Goes.step (B := T1.setTop (mkF m 17 #[.val (.int i0), .val (.int (1 : Int32)), .val (.int (0 : Int32)), .unset] [(.int (0 : Int32)), (.int (1 : Int32))])) (fun _ k => XS.iconst X1.here hx rfl (hb hby at_16) k) ?_
    obtain ⟨_, _, ⟨T2, L2, k2, n2⟩, -, X2, ⟨Lc2, hQ2, l2, y2, z2⟩, st2⟩ := Jvm.LawKit.callS X1 hx (y := (⟨"com/example/starlane_tabletop/starlanetabletop/rules/TimelineRound", "commitments", "(IZ)I"⟩ : MethodName)) hown (mvT hZ (hw _ (List.mem_of_getElem? (i := 1) rfl))) (mvT hZ (hw _ (List.mem_of_getElem? (i := 2) rfl))) (mvT hZ (hw _ (List.mem_of_getElem? (i := 3) rfl))) (mvT hZ (hw _ (List.mem_of_getElem? (i := 4) rfl))) (by decide) (backOf (W := 0) (rm1 l Z a0 hw [] (1 : Int32) (0 : Int32) h0 n0 O0 (by decide) (by decide)) hZ (hw _ (List.mem_of_getElem? (i := 4) rfl)) (hw _ (List.mem_of_getElem? (i := 3) rfl)) (by decide) (by decide)) (g := (mkF m 17 #[.val (.int i0), .val (.int (1 : Int32)), .val (.int (0 : Int32)), .unset] [(.int (0 : Int32)), (.int (1 : Int32))])) rfl (by rw [hml]; rfl) (argsL := [(.int (1 : Int32)), (.int (0 : Int32))]) (rest := []) (lenOf pd_0 rfl) rfl (by show 2 * 0 + _ ≤ _; exact Nat.le_of_eq rfl) (hb hby at_17) (fun _ _ => ⟨rfl, eh1, (by decide : 0 + 0 ≤ _), (by decide : 0 + 0 ≤ _)⟩)
    dsimp only [Pt.U, Pt.locs, Pt.cells, Pt.slots] at X2 l2 y2 z2 st2 hQ2
    subst l2 y2 z2
    obtain ⟨rfl, Nq2, eh2⟩ := hQ2
    have N2 := Fr.app N1 Nq2
    refine Goes.step (B := T2.setTop (mkF m 20 #[.val (.int i0), .val (.int (1 : Int32)), .val (.int (0 : Int32)), .unset] [(.int (own_com (1 : Int32) (0 : Int32)))])) st2 ?_
    rw [(by decide : (own_com (1 : Int32) (0 : Int32)) = (0 : Int32))]
    refine Goes.step (B := T2.setTop (mkF m 21 #[.val (.int i0), .val (.int (1 : Int32)), .val (.int (0 : Int32)), .val (.int (0 : Int32))] [])) (fun _ k => XS.istoreN X2.here hx rfl (hb hby at_20) rfl (l' := #[.val (.int i0), .val (.int (1 : Int32)), .val (.int (0 : Int32)), .val (.int (0 : Int32))]) rfl k) ?_
    refine Goes.step (B := T2.setTop (mkF m 22 #[.val (.int i0), .val (.int (1 : Int32)), .val (.int (0 : Int32)), .val (.int (0 : Int32))] [(.int (1 : Int32))])) (fun _ k => XS.iloadN X2.here hx rfl (hb hby at_21) rfl k) ?_
    refine Goes.step (B := T2.setTop (mkF m 23 #[.val (.int i0), .val (.int (1 : Int32)), .val (.int (0 : Int32)), .val (.int (0 : Int32))] [(.int (1 : Int32)), (.int (1 : Int32))])) (fun _ k => XS.iconst X2.here hx rfl (hb hby at_22) k) ?_
    refine Goes.step (B := T2.setTop (mkF m 26 #[.val (.int i0), .val (.int (1 : Int32)), .val (.int (0 : Int32)), .val (.int (0 : Int32))] [])) (fun _ k => XS.icmpNo X2.here hx rfl (hb hby at_23) rfl (teq (by decide)).2 k) ?_
    refine Goes.step (B := T2.setTop (mkF m 27 #[.val (.int i0), .val (.int (1 : Int32)), .val (.int (0 : Int32)), .val (.int (0 : Int32))] [(.int (0 : Int32))])) (fun _ k => XS.iloadN X2.here hx rfl (hb hby at_26) rfl k) ?_
    refine Goes.step (B := T2.setTop (mkF m 30 #[.val (.int i0), .val (.int (1 : Int32)), .val (.int (0 : Int32)), .val (.int (0 : Int32))] [])) (fun _ k => XS.ifNo X2.here hx rfl (hb hby at_27) rfl ((if0 _ _).trans (teq (by decide)).2) k) ?_
    refine Goes.step (B := T2.setTop (mkF m 31 #[.val (.int i0), .val (.int (1 : Int32)), .val (.int (0 : Int32)), .val (.int (0 : Int32))] [(.int (0 : Int32))])) (fun _ k => XS.iloadN X2.here hx rfl (hb hby at_30) rfl k) ?_
    refine Goes.step (B := T2.setTop (mkF m 34 #[.val (.int i0), .val (.int (1 : Int32)), .val (.int (0 : Int32)), .val (.int (0 : Int32))] [])) (fun _ k => XS.ifNo X2.here hx rfl (hb hby at_31) rfl ((if0 _ _).trans (teq (by decide)).2) k) ?_
    refine Goes.step (B := T2.setTop (mkF m 35 #[.val (.int i0), .val (.int (1 : Int32)), .val (.int (0 : Int32)), .val (.int (0 : Int32))] [(.int (1 : Int32))])) (fun _ k => XS.iconst X2.here hx rfl (hb hby at_34) k) ?_
    refine Goes.step (B := T2.setTop (mkF m 39 #[.val (.int i0), .val (.int (1 : Int32)), .val (.int (0 : Int32)), .val (.int (0 : Int32))] [(.int (1 : Int32))])) (fun _ k => XS.goto X2.here hx rfl (pc0 := 35) (pc' := 39) rfl (hb hby at_35) (by decide) (by decide) k) ?_
    exact Goes.retN X2 hx eh2 (t := .boolean) Bd.returns (by simp) hlk (hb hby at_39) (by decide) (by decide) (⟨rfl, N2⟩)
  · refine Goes.step (B := s₁.setTop (mkF m 9 #[.val (.int i0), .val (.int (2 : Int32)), .unset, .unset] [])) (fun _ k => XS.istoreN X0.here hx rfl (hb hby at_8) rfl (l' := #[.val (.int i0), .val (.int (2 : Int32)), .unset, .unset]) rfl k) ?_
    refine Goes.step (B := s₁.setTop (mkF m 10 #[.val (.int i0), .val (.int (2 : Int32)), .unset, .unset] [(.int (2 : Int32))])) (fun _ k => XS.iloadN X0.here hx rfl (hb hby at_9) rfl k) ?_
    refine Goes.step (B := s₁.setTop (mkF m 11 #[.val (.int i0), .val (.int (2 : Int32)), .unset, .unset] [(.int (1 : Int32)), (.int (2 : Int32))])) (fun _ k => XS.iconst X0.here hx rfl (hb hby at_10) k) ?_
    obtain ⟨_, _, ⟨T3, L3, k3, n3⟩, -, X3, ⟨Lc3, hQ3, l3, y3, z3⟩, st3⟩ := Jvm.LawKit.callS X0 hx (y := (⟨"com/example/starlane_tabletop/starlanetabletop/rules/TimelineRound", "commitments", "(IZ)I"⟩ : MethodName)) hown (mvT hZ (hw _ (List.mem_of_getElem? (i := 1) rfl))) (mvT hZ (hw _ (List.mem_of_getElem? (i := 2) rfl))) (mvT hZ (hw _ (List.mem_of_getElem? (i := 3) rfl))) (mvT hZ (hw _ (List.mem_of_getElem? (i := 4) rfl))) (by decide) (backOf (W := 0) (rm1 l Z a0 hw [] (2 : Int32) (1 : Int32) h0 n0 O0 (by decide) (by decide)) hZ (hw _ (List.mem_of_getElem? (i := 4) rfl)) (hw _ (List.mem_of_getElem? (i := 3) rfl)) (by decide) (by decide)) (g := (mkF m 11 #[.val (.int i0), .val (.int (2 : Int32)), .unset, .unset] [(.int (1 : Int32)), (.int (2 : Int32))])) rfl (by rw [hml]; rfl) (argsL := [(.int (2 : Int32)), (.int (1 : Int32))]) (rest := []) (lenOf pd_0 rfl) rfl (by show 2 * 0 + _ ≤ _; exact Nat.le_of_eq rfl) (hb hby at_11) (fun _ _ => ⟨rfl, e0, (by decide : 0 + 0 ≤ _), (by decide : 0 + 0 ≤ _)⟩)
    dsimp only [Pt.U, Pt.locs, Pt.cells, Pt.slots] at X3 l3 y3 z3 st3 hQ3
    subst l3 y3 z3
    obtain ⟨rfl, Nq3, eh3⟩ := hQ3
    have N3 := Fr.app N0 Nq3
    refine Goes.step (B := T3.setTop (mkF m 14 #[.val (.int i0), .val (.int (2 : Int32)), .unset, .unset] [(.int (own_com (2 : Int32) (1 : Int32)))])) st3 ?_
    rw [(by decide : (own_com (2 : Int32) (1 : Int32)) = (2 : Int32))]
    refine Goes.step (B := T3.setTop (mkF m 15 #[.val (.int i0), .val (.int (2 : Int32)), .val (.int (2 : Int32)), .unset] [])) (fun _ k => XS.istoreN X3.here hx rfl (hb hby at_14) rfl (l' := #[.val (.int i0), .val (.int (2 : Int32)), .val (.int (2 : Int32)), .unset]) rfl k) ?_
    refine Goes.step (B := T3.setTop (mkF m 16 #[.val (.int i0), .val (.int (2 : Int32)), .val (.int (2 : Int32)), .unset] [(.int (2 : Int32))])) (fun _ k => XS.iloadN X3.here hx rfl (hb hby at_15) rfl k) ?_
    refine Goes.step (B := T3.setTop (mkF m 17 #[.val (.int i0), .val (.int (2 : Int32)), .val (.int (2 : Int32)), .unset] [(.int (0 : Int32)), (.int (2 : Int32))])) (fun _ k => XS.iconst X3.here hx rfl (hb hby at_16) k) ?_
    obtain ⟨_, _, ⟨T4, L4, k4, n4⟩, -, X4, ⟨Lc4, hQ4, l4, y4, z4⟩, st4⟩ := Jvm.LawKit.callS X3 hx (y := (⟨"com/example/starlane_tabletop/starlanetabletop/rules/TimelineRound", "commitments", "(IZ)I"⟩ : MethodName)) hown (mvT hZ (hw _ (List.mem_of_getElem? (i := 1) rfl))) (mvT hZ (hw _ (List.mem_of_getElem? (i := 2) rfl))) (mvT hZ (hw _ (List.mem_of_getElem? (i := 3) rfl))) (mvT hZ (hw _ (List.mem_of_getElem? (i := 4) rfl))) (by decide) (backOf (W := 0) (rm1 l Z a0 hw [] (2 : Int32) (0 : Int32) h0 n0 O0 (by decide) (by decide)) hZ (hw _ (List.mem_of_getElem? (i := 4) rfl)) (hw _ (List.mem_of_getElem? (i := 3) rfl)) (by decide) (by decide)) (g := (mkF m 17 #[.val (.int i0), .val (.int (2 : Int32)), .val (.int (2 : Int32)), .unset] [(.int (0 : Int32)), (.int (2 : Int32))])) rfl (by rw [hml]; rfl) (argsL := [(.int (2 : Int32)), (.int (0 : Int32))]) (rest := []) (lenOf pd_0 rfl) rfl (by show 2 * 0 + _ ≤ _; exact Nat.le_of_eq rfl) (hb hby at_17) (fun _ _ => ⟨rfl, eh3, (by decide : 0 + 0 ≤ _), (by decide : 0 + 0 ≤ _)⟩)
    dsimp only [Pt.U, Pt.locs, Pt.cells, Pt.slots] at X4 l4 y4 z4 st4 hQ4
    subst l4 y4 z4
    obtain ⟨rfl, Nq4, eh4⟩ := hQ4
    have N4 := Fr.app N3 Nq4
    refine Goes.step (B := T4.setTop (mkF m 20 #[.val (.int i0), .val (.int (2 : Int32)), .val (.int (2 : Int32)), .unset] [(.int (own_com (2 : Int32) (0 : Int32)))])) st4 ?_
    rw [(by decide : (own_com (2 : Int32) (0 : Int32)) = (2 : Int32))]
    refine Goes.step (B := T4.setTop (mkF m 21 #[.val (.int i0), .val (.int (2 : Int32)), .val (.int (2 : Int32)), .val (.int (2 : Int32))] [])) (fun _ k => XS.istoreN X4.here hx rfl (hb hby at_20) rfl (l' := #[.val (.int i0), .val (.int (2 : Int32)), .val (.int (2 : Int32)), .val (.int (2 : Int32))]) rfl k) ?_
    refine Goes.step (B := T4.setTop (mkF m 22 #[.val (.int i0), .val (.int (2 : Int32)), .val (.int (2 : Int32)), .val (.int (2 : Int32))] [(.int (2 : Int32))])) (fun _ k => XS.iloadN X4.here hx rfl (hb hby at_21) rfl k) ?_
    refine Goes.step (B := T4.setTop (mkF m 23 #[.val (.int i0), .val (.int (2 : Int32)), .val (.int (2 : Int32)), .val (.int (2 : Int32))] [(.int (1 : Int32)), (.int (2 : Int32))])) (fun _ k => XS.iconst X4.here hx rfl (hb hby at_22) k) ?_
    refine Goes.step (B := T4.setTop (mkF m 40 #[.val (.int i0), .val (.int (2 : Int32)), .val (.int (2 : Int32)), .val (.int (2 : Int32))] [])) (fun _ k => XS.icmpYes X4.here hx rfl (pc0 := 23) (pc' := 40) rfl (hb hby at_23) rfl (feq (by decide)).2 (by decide) (by decide) k) ?_
    refine Goes.step (B := T4.setTop (mkF m 41 #[.val (.int i0), .val (.int (2 : Int32)), .val (.int (2 : Int32)), .val (.int (2 : Int32))] [(.int (2 : Int32))])) (fun _ k => XS.iloadN X4.here hx rfl (hb hby at_40) rfl k) ?_
    refine Goes.step (B := T4.setTop (mkF m 44 #[.val (.int i0), .val (.int (2 : Int32)), .val (.int (2 : Int32)), .val (.int (2 : Int32))] [])) (fun _ k => XS.ifNo X4.here hx rfl (hb hby at_41) rfl ((if0 _ _).trans (flt (by decide)).1) k) ?_
    refine Goes.step (B := T4.setTop (mkF m 45 #[.val (.int i0), .val (.int (2 : Int32)), .val (.int (2 : Int32)), .val (.int (2 : Int32))] [(.int (2 : Int32))])) (fun _ k => XS.iloadN X4.here hx rfl (hb hby at_44) rfl k) ?_
    refine Goes.step (B := T4.setTop (mkF m 46 #[.val (.int i0), .val (.int (2 : Int32)), .val (.int (2 : Int32)), .val (.int (2 : Int32))] [(.int (2 : Int32)), (.int (2 : Int32))])) (fun _ k => XS.iconst X4.here hx rfl (hb hby at_45) k) ?_
    refine Goes.step (B := T4.setTop (mkF m 49 #[.val (.int i0), .val (.int (2 : Int32)), .val (.int (2 : Int32)), .val (.int (2 : Int32))] [])) (fun _ k => XS.icmpNo X4.here hx rfl (hb hby at_46) rfl (flt (by decide)).2.2.1 k) ?_
    refine Goes.step (B := T4.setTop (mkF m 50 #[.val (.int i0), .val (.int (2 : Int32)), .val (.int (2 : Int32)), .val (.int (2 : Int32))] [(.int (2 : Int32))])) (fun _ k => XS.iloadN X4.here hx rfl (hb hby at_49) rfl k) ?_
    refine Goes.step (B := T4.setTop (mkF m 53 #[.val (.int i0), .val (.int (2 : Int32)), .val (.int (2 : Int32)), .val (.int (2 : Int32))] [])) (fun _ k => XS.ifNo X4.here hx rfl (hb hby at_50) rfl ((if0 _ _).trans (flt (by decide)).1) k) ?_
    refine Goes.step (B := T4.setTop (mkF m 54 #[.val (.int i0), .val (.int (2 : Int32)), .val (.int (2 : Int32)), .val (.int (2 : Int32))] [(.int (2 : Int32))])) (fun _ k => XS.iloadN X4.here hx rfl (hb hby at_53) rfl k) ?_
    refine Goes.step (B := T4.setTop (mkF m 55 #[.val (.int i0), .val (.int (2 : Int32)), .val (.int (2 : Int32)), .val (.int (2 : Int32))] [(.int (2 : Int32)), (.int (2 : Int32))])) (fun _ k => XS.iconst X4.here hx rfl (hb hby at_54) k) ?_
    refine Goes.step (B := T4.setTop (mkF m 60 #[.val (.int i0), .val (.int (2 : Int32)), .val (.int (2 : Int32)), .val (.int (2 : Int32))] [])) (fun _ k => XS.icmpYes X4.here hx rfl (pc0 := 55) (pc' := 60) rfl (hb hby at_55) rfl (flt (by decide)).2.2.2 (by decide) (by decide) k) ?_
    refine Goes.step (B := T4.setTop (mkF m 61 #[.val (.int i0), .val (.int (2 : Int32)), .val (.int (2 : Int32)), .val (.int (2 : Int32))] [(.int (2 : Int32))])) (fun _ k => XS.iloadN X4.here hx rfl (hb hby at_60) rfl k) ?_
    refine Goes.step (B := T4.setTop (mkF m 62 #[.val (.int i0), .val (.int (2 : Int32)), .val (.int (2 : Int32)), .val (.int (2 : Int32))] [(.int (3 : Int32)), (.int (2 : Int32))])) (fun _ k => XS.iconst X4.here hx rfl (hb hby at_61) k) ?_
    refine Goes.step (B := T4.setTop (mkF m 72 #[.val (.int i0), .val (.int (2 : Int32)), .val (.int (2 : Int32)), .val (.int (2 : Int32))] [])) (fun _ k => XS.icmpYes X4.here hx rfl (pc0 := 62) (pc' := 72) rfl (hb hby at_62) rfl (tlt (by decide)).1 (by decide) (by decide) k) ?_
    refine Goes.step (B := T4.setTop (mkF m 73 #[.val (.int i0), .val (.int (2 : Int32)), .val (.int (2 : Int32)), .val (.int (2 : Int32))] [(.int (2 : Int32))])) (fun _ k => XS.iloadN X4.here hx rfl (hb hby at_72) rfl k) ?_
    refine Goes.step (B := T4.setTop (mkF m 74 #[.val (.int i0), .val (.int (2 : Int32)), .val (.int (2 : Int32)), .val (.int (2 : Int32))] [(.int (2 : Int32)), (.int (2 : Int32))])) (fun _ k => XS.iloadN X4.here hx rfl (hb hby at_73) rfl k) ?_
    refine Goes.step (B := T4.setTop (mkF m 75 #[.val (.int i0), .val (.int (2 : Int32)), .val (.int (2 : Int32)), .val (.int (2 : Int32))] [(.int (1 : Int32)), (.int (2 : Int32)), (.int (2 : Int32))])) (fun _ k => XS.iconst X4.here hx rfl (hb hby at_74) k) ?_
    refine Goes.step (B := T4.setTop (mkF m 76 #[.val (.int i0), .val (.int (2 : Int32)), .val (.int (2 : Int32)), .val (.int (2 : Int32))] [(.int (1 : Int32)), (.int (2 : Int32))])) (fun _ k => XS.isub X4.here hx rfl (hb hby at_75) rfl k) ?_
    refine Goes.step (B := T4.setTop (mkF m 77 #[.val (.int i0), .val (.int (2 : Int32)), .val (.int (2 : Int32)), .val (.int (2 : Int32))] [(.int (2 : Int32)), (.int (1 : Int32)), (.int (2 : Int32))])) (fun _ k => XS.iloadN X4.here hx rfl (hb hby at_76) rfl k) ?_
    refine Goes.step (B := T4.setTop (mkF m 78 #[.val (.int i0), .val (.int (2 : Int32)), .val (.int (2 : Int32)), .val (.int (2 : Int32))] [(.int (2 : Int32)), (.int (2 : Int32))])) (fun _ k => XS.imul X4.here hx rfl (hb hby at_77) rfl k) ?_
    refine Goes.step (B := T4.setTop (mkF m 79 #[.val (.int i0), .val (.int (2 : Int32)), .val (.int (2 : Int32)), .val (.int (2 : Int32))] [(.int (4 : Int32))])) (fun _ k => XS.iadd X4.here hx rfl (hb hby at_78) rfl k) ?_
    refine Goes.step (B := T4.setTop (mkF m 80 #[.val (.int i0), .val (.int (2 : Int32)), .val (.int (2 : Int32)), .val (.int (2 : Int32))] [(.int (4 : Int32)), (.int (4 : Int32))])) (fun _ k => XS.iconst X4.here hx rfl (hb hby at_79) k) ?_
    refine Goes.step (B := T4.setTop (mkF m 83 #[.val (.int i0), .val (.int (2 : Int32)), .val (.int (2 : Int32)), .val (.int (2 : Int32))] [])) (fun _ k => XS.icmpNo X4.here hx rfl (hb hby at_80) rfl (teq (by decide)).2 k) ?_
    refine Goes.step (B := T4.setTop (mkF m 84 #[.val (.int i0), .val (.int (2 : Int32)), .val (.int (2 : Int32)), .val (.int (2 : Int32))] [(.int (1 : Int32))])) (fun _ k => XS.iconst X4.here hx rfl (hb hby at_83) k) ?_
    refine Goes.step (B := T4.setTop (mkF m 88 #[.val (.int i0), .val (.int (2 : Int32)), .val (.int (2 : Int32)), .val (.int (2 : Int32))] [(.int (1 : Int32))])) (fun _ k => XS.goto X4.here hx rfl (pc0 := 84) (pc' := 88) rfl (hb hby at_84) (by decide) (by decide) k) ?_
    exact Goes.retN X4 hx eh4 (t := .boolean) Bd.returns (by simp) hlk (hb hby at_88) (by decide) (by decide) (⟨rfl, N4⟩)
  · refine Goes.step (B := s₁.setTop (mkF m 9 #[.val (.int i0), .val (.int (3 : Int32)), .unset, .unset] [])) (fun _ k => XS.istoreN X0.here hx rfl (hb hby at_8) rfl (l' := #[.val (.int i0), .val (.int (3 : Int32)), .unset, .unset]) rfl k) ?_
    refine Goes.step (B := s₁.setTop (mkF m 10 #[.val (.int i0), .val (.int (3 : Int32)), .unset, .unset] [(.int (3 : Int32))])) (fun _ k => XS.iloadN X0.here hx rfl (hb hby at_9) rfl k) ?_
    refine Goes.step (B := s₁.setTop (mkF m 11 #[.val (.int i0), .val (.int (3 : Int32)), .unset, .unset] [(.int (1 : Int32)), (.int (3 : Int32))])) (fun _ k => XS.iconst X0.here hx rfl (hb hby at_10) k) ?_
    obtain ⟨_, _, ⟨T5, L5, k5, n5⟩, -, X5, ⟨Lc5, hQ5, l5, y5, z5⟩, st5⟩ := Jvm.LawKit.callS X0 hx (y := (⟨"com/example/starlane_tabletop/starlanetabletop/rules/TimelineRound", "commitments", "(IZ)I"⟩ : MethodName)) hown (mvT hZ (hw _ (List.mem_of_getElem? (i := 1) rfl))) (mvT hZ (hw _ (List.mem_of_getElem? (i := 2) rfl))) (mvT hZ (hw _ (List.mem_of_getElem? (i := 3) rfl))) (mvT hZ (hw _ (List.mem_of_getElem? (i := 4) rfl))) (by decide) (backOf (W := 0) (rm1 l Z a0 hw [] (3 : Int32) (1 : Int32) h0 n0 O0 (by decide) (by decide)) hZ (hw _ (List.mem_of_getElem? (i := 4) rfl)) (hw _ (List.mem_of_getElem? (i := 3) rfl)) (by decide) (by decide)) (g := (mkF m 11 #[.val (.int i0), .val (.int (3 : Int32)), .unset, .unset] [(.int (1 : Int32)), (.int (3 : Int32))])) rfl (by rw [hml]; rfl) (argsL := [(.int (3 : Int32)), (.int (1 : Int32))]) (rest := []) (lenOf pd_0 rfl) rfl (by show 2 * 0 + _ ≤ _; exact Nat.le_of_eq rfl) (hb hby at_11) (fun _ _ => ⟨rfl, e0, (by decide : 0 + 0 ≤ _), (by decide : 0 + 0 ≤ _)⟩)
    dsimp only [Pt.U, Pt.locs, Pt.cells, Pt.slots] at X5 l5 y5 z5 st5 hQ5
    subst l5 y5 z5
    obtain ⟨rfl, Nq5, eh5⟩ := hQ5
    have N5 := Fr.app N0 Nq5
    refine Goes.step (B := T5.setTop (mkF m 14 #[.val (.int i0), .val (.int (3 : Int32)), .unset, .unset] [(.int (own_com (3 : Int32) (1 : Int32)))])) st5 ?_
    rw [(by decide : (own_com (3 : Int32) (1 : Int32)) = (2 : Int32))]
    refine Goes.step (B := T5.setTop (mkF m 15 #[.val (.int i0), .val (.int (3 : Int32)), .val (.int (2 : Int32)), .unset] [])) (fun _ k => XS.istoreN X5.here hx rfl (hb hby at_14) rfl (l' := #[.val (.int i0), .val (.int (3 : Int32)), .val (.int (2 : Int32)), .unset]) rfl k) ?_
    refine Goes.step (B := T5.setTop (mkF m 16 #[.val (.int i0), .val (.int (3 : Int32)), .val (.int (2 : Int32)), .unset] [(.int (3 : Int32))])) (fun _ k => XS.iloadN X5.here hx rfl (hb hby at_15) rfl k) ?_
    refine Goes.step (B := T5.setTop (mkF m 17 #[.val (.int i0), .val (.int (3 : Int32)), .val (.int (2 : Int32)), .unset] [(.int (0 : Int32)), (.int (3 : Int32))])) (fun _ k => XS.iconst X5.here hx rfl (hb hby at_16) k) ?_
    obtain ⟨_, _, ⟨T6, L6, k6, n6⟩, -, X6, ⟨Lc6, hQ6, l6, y6, z6⟩, st6⟩ := Jvm.LawKit.callS X5 hx (y := (⟨"com/example/starlane_tabletop/starlanetabletop/rules/TimelineRound", "commitments", "(IZ)I"⟩ : MethodName)) hown (mvT hZ (hw _ (List.mem_of_getElem? (i := 1) rfl))) (mvT hZ (hw _ (List.mem_of_getElem? (i := 2) rfl))) (mvT hZ (hw _ (List.mem_of_getElem? (i := 3) rfl))) (mvT hZ (hw _ (List.mem_of_getElem? (i := 4) rfl))) (by decide) (backOf (W := 0) (rm1 l Z a0 hw [] (3 : Int32) (0 : Int32) h0 n0 O0 (by decide) (by decide)) hZ (hw _ (List.mem_of_getElem? (i := 4) rfl)) (hw _ (List.mem_of_getElem? (i := 3) rfl)) (by decide) (by decide)) (g := (mkF m 17 #[.val (.int i0), .val (.int (3 : Int32)), .val (.int (2 : Int32)), .unset] [(.int (0 : Int32)), (.int (3 : Int32))])) rfl (by rw [hml]; rfl) (argsL := [(.int (3 : Int32)), (.int (0 : Int32))]) (rest := []) (lenOf pd_0 rfl) rfl (by show 2 * 0 + _ ≤ _; exact Nat.le_of_eq rfl) (hb hby at_17) (fun _ _ => ⟨rfl, eh5, (by decide : 0 + 0 ≤ _), (by decide : 0 + 0 ≤ _)⟩)
    dsimp only [Pt.U, Pt.locs, Pt.cells, Pt.slots] at X6 l6 y6 z6 st6 hQ6
    subst l6 y6 z6
    obtain ⟨rfl, Nq6, eh6⟩ := hQ6
    have N6 := Fr.app N5 Nq6
    refine Goes.step (B := T6.setTop (mkF m 20 #[.val (.int i0), .val (.int (3 : Int32)), .val (.int (2 : Int32)), .unset] [(.int (own_com (3 : Int32) (0 : Int32)))])) st6 ?_
    rw [(by decide : (own_com (3 : Int32) (0 : Int32)) = (1 : Int32))]
    refine Goes.step (B := T6.setTop (mkF m 21 #[.val (.int i0), .val (.int (3 : Int32)), .val (.int (2 : Int32)), .val (.int (1 : Int32))] [])) (fun _ k => XS.istoreN X6.here hx rfl (hb hby at_20) rfl (l' := #[.val (.int i0), .val (.int (3 : Int32)), .val (.int (2 : Int32)), .val (.int (1 : Int32))]) rfl k) ?_
    refine Goes.step (B := T6.setTop (mkF m 22 #[.val (.int i0), .val (.int (3 : Int32)), .val (.int (2 : Int32)), .val (.int (1 : Int32))] [(.int (3 : Int32))])) (fun _ k => XS.iloadN X6.here hx rfl (hb hby at_21) rfl k) ?_
    refine Goes.step (B := T6.setTop (mkF m 23 #[.val (.int i0), .val (.int (3 : Int32)), .val (.int (2 : Int32)), .val (.int (1 : Int32))] [(.int (1 : Int32)), (.int (3 : Int32))])) (fun _ k => XS.iconst X6.here hx rfl (hb hby at_22) k) ?_
    refine Goes.step (B := T6.setTop (mkF m 40 #[.val (.int i0), .val (.int (3 : Int32)), .val (.int (2 : Int32)), .val (.int (1 : Int32))] [])) (fun _ k => XS.icmpYes X6.here hx rfl (pc0 := 23) (pc' := 40) rfl (hb hby at_23) rfl (feq (by decide)).2 (by decide) (by decide) k) ?_
    refine Goes.step (B := T6.setTop (mkF m 41 #[.val (.int i0), .val (.int (3 : Int32)), .val (.int (2 : Int32)), .val (.int (1 : Int32))] [(.int (2 : Int32))])) (fun _ k => XS.iloadN X6.here hx rfl (hb hby at_40) rfl k) ?_
    refine Goes.step (B := T6.setTop (mkF m 44 #[.val (.int i0), .val (.int (3 : Int32)), .val (.int (2 : Int32)), .val (.int (1 : Int32))] [])) (fun _ k => XS.ifNo X6.here hx rfl (hb hby at_41) rfl ((if0 _ _).trans (flt (by decide)).1) k) ?_
    refine Goes.step (B := T6.setTop (mkF m 45 #[.val (.int i0), .val (.int (3 : Int32)), .val (.int (2 : Int32)), .val (.int (1 : Int32))] [(.int (2 : Int32))])) (fun _ k => XS.iloadN X6.here hx rfl (hb hby at_44) rfl k) ?_
    refine Goes.step (B := T6.setTop (mkF m 46 #[.val (.int i0), .val (.int (3 : Int32)), .val (.int (2 : Int32)), .val (.int (1 : Int32))] [(.int (2 : Int32)), (.int (2 : Int32))])) (fun _ k => XS.iconst X6.here hx rfl (hb hby at_45) k) ?_
    refine Goes.step (B := T6.setTop (mkF m 49 #[.val (.int i0), .val (.int (3 : Int32)), .val (.int (2 : Int32)), .val (.int (1 : Int32))] [])) (fun _ k => XS.icmpNo X6.here hx rfl (hb hby at_46) rfl (flt (by decide)).2.2.1 k) ?_
    refine Goes.step (B := T6.setTop (mkF m 50 #[.val (.int i0), .val (.int (3 : Int32)), .val (.int (2 : Int32)), .val (.int (1 : Int32))] [(.int (1 : Int32))])) (fun _ k => XS.iloadN X6.here hx rfl (hb hby at_49) rfl k) ?_
    refine Goes.step (B := T6.setTop (mkF m 53 #[.val (.int i0), .val (.int (3 : Int32)), .val (.int (2 : Int32)), .val (.int (1 : Int32))] [])) (fun _ k => XS.ifNo X6.here hx rfl (hb hby at_50) rfl ((if0 _ _).trans (flt (by decide)).1) k) ?_
    refine Goes.step (B := T6.setTop (mkF m 54 #[.val (.int i0), .val (.int (3 : Int32)), .val (.int (2 : Int32)), .val (.int (1 : Int32))] [(.int (1 : Int32))])) (fun _ k => XS.iloadN X6.here hx rfl (hb hby at_53) rfl k) ?_
    refine Goes.step (B := T6.setTop (mkF m 55 #[.val (.int i0), .val (.int (3 : Int32)), .val (.int (2 : Int32)), .val (.int (1 : Int32))] [(.int (2 : Int32)), (.int (1 : Int32))])) (fun _ k => XS.iconst X6.here hx rfl (hb hby at_54) k) ?_
    refine Goes.step (B := T6.setTop (mkF m 60 #[.val (.int i0), .val (.int (3 : Int32)), .val (.int (2 : Int32)), .val (.int (1 : Int32))] [])) (fun _ k => XS.icmpYes X6.here hx rfl (pc0 := 55) (pc' := 60) rfl (hb hby at_55) rfl (flt (by decide)).2.2.2 (by decide) (by decide) k) ?_
    refine Goes.step (B := T6.setTop (mkF m 61 #[.val (.int i0), .val (.int (3 : Int32)), .val (.int (2 : Int32)), .val (.int (1 : Int32))] [(.int (3 : Int32))])) (fun _ k => XS.iloadN X6.here hx rfl (hb hby at_60) rfl k) ?_
    refine Goes.step (B := T6.setTop (mkF m 62 #[.val (.int i0), .val (.int (3 : Int32)), .val (.int (2 : Int32)), .val (.int (1 : Int32))] [(.int (3 : Int32)), (.int (3 : Int32))])) (fun _ k => XS.iconst X6.here hx rfl (hb hby at_61) k) ?_
    refine Goes.step (B := T6.setTop (mkF m 65 #[.val (.int i0), .val (.int (3 : Int32)), .val (.int (2 : Int32)), .val (.int (1 : Int32))] [])) (fun _ k => XS.icmpNo X6.here hx rfl (hb hby at_62) rfl (flt (by decide)).1 k) ?_
    refine Goes.step (B := T6.setTop (mkF m 66 #[.val (.int i0), .val (.int (3 : Int32)), .val (.int (2 : Int32)), .val (.int (1 : Int32))] [(.int (1 : Int32))])) (fun _ k => XS.iloadN X6.here hx rfl (hb hby at_65) rfl k) ?_
    refine Goes.step (B := T6.setTop (mkF m 67 #[.val (.int i0), .val (.int (3 : Int32)), .val (.int (2 : Int32)), .val (.int (1 : Int32))] [(.int (1 : Int32)), (.int (1 : Int32))])) (fun _ k => XS.iconst X6.here hx rfl (hb hby at_66) k) ?_
    refine Goes.step (B := T6.setTop (mkF m 72 #[.val (.int i0), .val (.int (3 : Int32)), .val (.int (2 : Int32)), .val (.int (1 : Int32))] [])) (fun _ k => XS.icmpYes X6.here hx rfl (pc0 := 67) (pc' := 72) rfl (hb hby at_67) rfl (teq (by decide)).1 (by decide) (by decide) k) ?_
    refine Goes.step (B := T6.setTop (mkF m 73 #[.val (.int i0), .val (.int (3 : Int32)), .val (.int (2 : Int32)), .val (.int (1 : Int32))] [(.int (2 : Int32))])) (fun _ k => XS.iloadN X6.here hx rfl (hb hby at_72) rfl k) ?_
    refine Goes.step (B := T6.setTop (mkF m 74 #[.val (.int i0), .val (.int (3 : Int32)), .val (.int (2 : Int32)), .val (.int (1 : Int32))] [(.int (3 : Int32)), (.int (2 : Int32))])) (fun _ k => XS.iloadN X6.here hx rfl (hb hby at_73) rfl k) ?_
    refine Goes.step (B := T6.setTop (mkF m 75 #[.val (.int i0), .val (.int (3 : Int32)), .val (.int (2 : Int32)), .val (.int (1 : Int32))] [(.int (1 : Int32)), (.int (3 : Int32)), (.int (2 : Int32))])) (fun _ k => XS.iconst X6.here hx rfl (hb hby at_74) k) ?_
    refine Goes.step (B := T6.setTop (mkF m 76 #[.val (.int i0), .val (.int (3 : Int32)), .val (.int (2 : Int32)), .val (.int (1 : Int32))] [(.int (2 : Int32)), (.int (2 : Int32))])) (fun _ k => XS.isub X6.here hx rfl (hb hby at_75) rfl k) ?_
    refine Goes.step (B := T6.setTop (mkF m 77 #[.val (.int i0), .val (.int (3 : Int32)), .val (.int (2 : Int32)), .val (.int (1 : Int32))] [(.int (1 : Int32)), (.int (2 : Int32)), (.int (2 : Int32))])) (fun _ k => XS.iloadN X6.here hx rfl (hb hby at_76) rfl k) ?_
    refine Goes.step (B := T6.setTop (mkF m 78 #[.val (.int i0), .val (.int (3 : Int32)), .val (.int (2 : Int32)), .val (.int (1 : Int32))] [(.int (2 : Int32)), (.int (2 : Int32))])) (fun _ k => XS.imul X6.here hx rfl (hb hby at_77) rfl k) ?_
    refine Goes.step (B := T6.setTop (mkF m 79 #[.val (.int i0), .val (.int (3 : Int32)), .val (.int (2 : Int32)), .val (.int (1 : Int32))] [(.int (4 : Int32))])) (fun _ k => XS.iadd X6.here hx rfl (hb hby at_78) rfl k) ?_
    refine Goes.step (B := T6.setTop (mkF m 80 #[.val (.int i0), .val (.int (3 : Int32)), .val (.int (2 : Int32)), .val (.int (1 : Int32))] [(.int (4 : Int32)), (.int (4 : Int32))])) (fun _ k => XS.iconst X6.here hx rfl (hb hby at_79) k) ?_
    refine Goes.step (B := T6.setTop (mkF m 83 #[.val (.int i0), .val (.int (3 : Int32)), .val (.int (2 : Int32)), .val (.int (1 : Int32))] [])) (fun _ k => XS.icmpNo X6.here hx rfl (hb hby at_80) rfl (teq (by decide)).2 k) ?_
    refine Goes.step (B := T6.setTop (mkF m 84 #[.val (.int i0), .val (.int (3 : Int32)), .val (.int (2 : Int32)), .val (.int (1 : Int32))] [(.int (1 : Int32))])) (fun _ k => XS.iconst X6.here hx rfl (hb hby at_83) k) ?_
    refine Goes.step (B := T6.setTop (mkF m 88 #[.val (.int i0), .val (.int (3 : Int32)), .val (.int (2 : Int32)), .val (.int (1 : Int32))] [(.int (1 : Int32))])) (fun _ k => XS.goto X6.here hx rfl (pc0 := 84) (pc' := 88) rfl (hb hby at_84) (by decide) (by decide) k) ?_
    exact Goes.retN X6 hx eh6 (t := .boolean) Bd.returns (by simp) hlk (hb hby at_88) (by decide) (by decide) (⟨rfl, N6⟩)
  · refine Goes.step (B := s₁.setTop (mkF m 9 #[.val (.int i0), .val (.int (4 : Int32)), .unset, .unset] [])) (fun _ k => XS.istoreN X0.here hx rfl (hb hby at_8) rfl (l' := #[.val (.int i0), .val (.int (4 : Int32)), .unset, .unset]) rfl k) ?_
    refine Goes.step (B := s₁.setTop (mkF m 10 #[.val (.int i0), .val (.int (4 : Int32)), .unset, .unset] [(.int (4 : Int32))])) (fun _ k => XS.iloadN X0.here hx rfl (hb hby at_9) rfl k) ?_
    refine Goes.step (B := s₁.setTop (mkF m 11 #[.val (.int i0), .val (.int (4 : Int32)), .unset, .unset] [(.int (1 : Int32)), (.int (4 : Int32))])) (fun _ k => XS.iconst X0.here hx rfl (hb hby at_10) k) ?_
    obtain ⟨_, _, ⟨T7, L7, k7, n7⟩, -, X7, ⟨Lc7, hQ7, l7, y7, z7⟩, st7⟩ := Jvm.LawKit.callS X0 hx (y := (⟨"com/example/starlane_tabletop/starlanetabletop/rules/TimelineRound", "commitments", "(IZ)I"⟩ : MethodName)) hown (mvT hZ (hw _ (List.mem_of_getElem? (i := 1) rfl))) (mvT hZ (hw _ (List.mem_of_getElem? (i := 2) rfl))) (mvT hZ (hw _ (List.mem_of_getElem? (i := 3) rfl))) (mvT hZ (hw _ (List.mem_of_getElem? (i := 4) rfl))) (by decide) (backOf (W := 0) (rm1 l Z a0 hw [] (4 : Int32) (1 : Int32) h0 n0 O0 (by decide) (by decide)) hZ (hw _ (List.mem_of_getElem? (i := 4) rfl)) (hw _ (List.mem_of_getElem? (i := 3) rfl)) (by decide) (by decide)) (g := (mkF m 11 #[.val (.int i0), .val (.int (4 : Int32)), .unset, .unset] [(.int (1 : Int32)), (.int (4 : Int32))])) rfl (by rw [hml]; rfl) (argsL := [(.int (4 : Int32)), (.int (1 : Int32))]) (rest := []) (lenOf pd_0 rfl) rfl (by show 2 * 0 + _ ≤ _; exact Nat.le_of_eq rfl) (hb hby at_11) (fun _ _ => ⟨rfl, e0, (by decide : 0 + 0 ≤ _), (by decide : 0 + 0 ≤ _)⟩)
    dsimp only [Pt.U, Pt.locs, Pt.cells, Pt.slots] at X7 l7 y7 z7 st7 hQ7
    subst l7 y7 z7
    obtain ⟨rfl, Nq7, eh7⟩ := hQ7
    have N7 := Fr.app N0 Nq7
    refine Goes.step (B := T7.setTop (mkF m 14 #[.val (.int i0), .val (.int (4 : Int32)), .unset, .unset] [(.int (own_com (4 : Int32) (1 : Int32)))])) st7 ?_
    rw [(by decide : (own_com (4 : Int32) (1 : Int32)) = (1 : Int32))]
    refine Goes.step (B := T7.setTop (mkF m 15 #[.val (.int i0), .val (.int (4 : Int32)), .val (.int (1 : Int32)), .unset] [])) (fun _ k => XS.istoreN X7.here hx rfl (hb hby at_14) rfl (l' := #[.val (.int i0), .val (.int (4 : Int32)), .val (.int (1 : Int32)), .unset]) rfl k) ?_
    refine Goes.step (B := T7.setTop (mkF m 16 #[.val (.int i0), .val (.int (4 : Int32)), .val (.int (1 : Int32)), .unset] [(.int (4 : Int32))])) (fun _ k => XS.iloadN X7.here hx rfl (hb hby at_15) rfl k) ?_
    refine Goes.step (B := T7.setTop (mkF m 17 #[.val (.int i0), .val (.int (4 : Int32)), .val (.int (1 : Int32)), .unset] [(.int (0 : Int32)), (.int (4 : Int32))])) (fun _ k => XS.iconst X7.here hx rfl (hb hby at_16) k) ?_
    obtain ⟨_, _, ⟨T8, L8, k8, n8⟩, -, X8, ⟨Lc8, hQ8, l8, y8, z8⟩, st8⟩ := Jvm.LawKit.callS X7 hx (y := (⟨"com/example/starlane_tabletop/starlanetabletop/rules/TimelineRound", "commitments", "(IZ)I"⟩ : MethodName)) hown (mvT hZ (hw _ (List.mem_of_getElem? (i := 1) rfl))) (mvT hZ (hw _ (List.mem_of_getElem? (i := 2) rfl))) (mvT hZ (hw _ (List.mem_of_getElem? (i := 3) rfl))) (mvT hZ (hw _ (List.mem_of_getElem? (i := 4) rfl))) (by decide) (backOf (W := 0) (rm1 l Z a0 hw [] (4 : Int32) (0 : Int32) h0 n0 O0 (by decide) (by decide)) hZ (hw _ (List.mem_of_getElem? (i := 4) rfl)) (hw _ (List.mem_of_getElem? (i := 3) rfl)) (by decide) (by decide)) (g := (mkF m 17 #[.val (.int i0), .val (.int (4 : Int32)), .val (.int (1 : Int32)), .unset] [(.int (0 : Int32)), (.int (4 : Int32))])) rfl (by rw [hml]; rfl) (argsL := [(.int (4 : Int32)), (.int (0 : Int32))]) (rest := []) (lenOf pd_0 rfl) rfl (by show 2 * 0 + _ ≤ _; exact Nat.le_of_eq rfl) (hb hby at_17) (fun _ _ => ⟨rfl, eh7, (by decide : 0 + 0 ≤ _), (by decide : 0 + 0 ≤ _)⟩)
    dsimp only [Pt.U, Pt.locs, Pt.cells, Pt.slots] at X8 l8 y8 z8 st8 hQ8
    subst l8 y8 z8
    obtain ⟨rfl, Nq8, eh8⟩ := hQ8
    have N8 := Fr.app N7 Nq8
    refine Goes.step (B := T8.setTop (mkF m 20 #[.val (.int i0), .val (.int (4 : Int32)), .val (.int (1 : Int32)), .unset] [(.int (own_com (4 : Int32) (0 : Int32)))])) st8 ?_
    rw [(by decide : (own_com (4 : Int32) (0 : Int32)) = (1 : Int32))]
    refine Goes.step (B := T8.setTop (mkF m 21 #[.val (.int i0), .val (.int (4 : Int32)), .val (.int (1 : Int32)), .val (.int (1 : Int32))] [])) (fun _ k => XS.istoreN X8.here hx rfl (hb hby at_20) rfl (l' := #[.val (.int i0), .val (.int (4 : Int32)), .val (.int (1 : Int32)), .val (.int (1 : Int32))]) rfl k) ?_
    refine Goes.step (B := T8.setTop (mkF m 22 #[.val (.int i0), .val (.int (4 : Int32)), .val (.int (1 : Int32)), .val (.int (1 : Int32))] [(.int (4 : Int32))])) (fun _ k => XS.iloadN X8.here hx rfl (hb hby at_21) rfl k) ?_
    refine Goes.step (B := T8.setTop (mkF m 23 #[.val (.int i0), .val (.int (4 : Int32)), .val (.int (1 : Int32)), .val (.int (1 : Int32))] [(.int (1 : Int32)), (.int (4 : Int32))])) (fun _ k => XS.iconst X8.here hx rfl (hb hby at_22) k) ?_
    refine Goes.step (B := T8.setTop (mkF m 40 #[.val (.int i0), .val (.int (4 : Int32)), .val (.int (1 : Int32)), .val (.int (1 : Int32))] [])) (fun _ k => XS.icmpYes X8.here hx rfl (pc0 := 23) (pc' := 40) rfl (hb hby at_23) rfl (feq (by decide)).2 (by decide) (by decide) k) ?_
    refine Goes.step (B := T8.setTop (mkF m 41 #[.val (.int i0), .val (.int (4 : Int32)), .val (.int (1 : Int32)), .val (.int (1 : Int32))] [(.int (1 : Int32))])) (fun _ k => XS.iloadN X8.here hx rfl (hb hby at_40) rfl k) ?_
    refine Goes.step (B := T8.setTop (mkF m 44 #[.val (.int i0), .val (.int (4 : Int32)), .val (.int (1 : Int32)), .val (.int (1 : Int32))] [])) (fun _ k => XS.ifNo X8.here hx rfl (hb hby at_41) rfl ((if0 _ _).trans (flt (by decide)).1) k) ?_
    refine Goes.step (B := T8.setTop (mkF m 45 #[.val (.int i0), .val (.int (4 : Int32)), .val (.int (1 : Int32)), .val (.int (1 : Int32))] [(.int (1 : Int32))])) (fun _ k => XS.iloadN X8.here hx rfl (hb hby at_44) rfl k) ?_
    refine Goes.step (B := T8.setTop (mkF m 46 #[.val (.int i0), .val (.int (4 : Int32)), .val (.int (1 : Int32)), .val (.int (1 : Int32))] [(.int (2 : Int32)), (.int (1 : Int32))])) (fun _ k => XS.iconst X8.here hx rfl (hb hby at_45) k) ?_
    refine Goes.step (B := T8.setTop (mkF m 49 #[.val (.int i0), .val (.int (4 : Int32)), .val (.int (1 : Int32)), .val (.int (1 : Int32))] [])) (fun _ k => XS.icmpNo X8.here hx rfl (hb hby at_46) rfl (flt (by decide)).2.2.1 k) ?_
    refine Goes.step (B := T8.setTop (mkF m 50 #[.val (.int i0), .val (.int (4 : Int32)), .val (.int (1 : Int32)), .val (.int (1 : Int32))] [(.int (1 : Int32))])) (fun _ k => XS.iloadN X8.here hx rfl (hb hby at_49) rfl k) ?_
    refine Goes.step (B := T8.setTop (mkF m 53 #[.val (.int i0), .val (.int (4 : Int32)), .val (.int (1 : Int32)), .val (.int (1 : Int32))] [])) (fun _ k => XS.ifNo X8.here hx rfl (hb hby at_50) rfl ((if0 _ _).trans (flt (by decide)).1) k) ?_
    refine Goes.step (B := T8.setTop (mkF m 54 #[.val (.int i0), .val (.int (4 : Int32)), .val (.int (1 : Int32)), .val (.int (1 : Int32))] [(.int (1 : Int32))])) (fun _ k => XS.iloadN X8.here hx rfl (hb hby at_53) rfl k) ?_
    refine Goes.step (B := T8.setTop (mkF m 55 #[.val (.int i0), .val (.int (4 : Int32)), .val (.int (1 : Int32)), .val (.int (1 : Int32))] [(.int (2 : Int32)), (.int (1 : Int32))])) (fun _ k => XS.iconst X8.here hx rfl (hb hby at_54) k) ?_
    refine Goes.step (B := T8.setTop (mkF m 60 #[.val (.int i0), .val (.int (4 : Int32)), .val (.int (1 : Int32)), .val (.int (1 : Int32))] [])) (fun _ k => XS.icmpYes X8.here hx rfl (pc0 := 55) (pc' := 60) rfl (hb hby at_55) rfl (flt (by decide)).2.2.2 (by decide) (by decide) k) ?_
    refine Goes.step (B := T8.setTop (mkF m 61 #[.val (.int i0), .val (.int (4 : Int32)), .val (.int (1 : Int32)), .val (.int (1 : Int32))] [(.int (4 : Int32))])) (fun _ k => XS.iloadN X8.here hx rfl (hb hby at_60) rfl k) ?_
    refine Goes.step (B := T8.setTop (mkF m 62 #[.val (.int i0), .val (.int (4 : Int32)), .val (.int (1 : Int32)), .val (.int (1 : Int32))] [(.int (3 : Int32)), (.int (4 : Int32))])) (fun _ k => XS.iconst X8.here hx rfl (hb hby at_61) k) ?_
    refine Goes.step (B := T8.setTop (mkF m 65 #[.val (.int i0), .val (.int (4 : Int32)), .val (.int (1 : Int32)), .val (.int (1 : Int32))] [])) (fun _ k => XS.icmpNo X8.here hx rfl (hb hby at_62) rfl (flt (by decide)).1 k) ?_
    refine Goes.step (B := T8.setTop (mkF m 66 #[.val (.int i0), .val (.int (4 : Int32)), .val (.int (1 : Int32)), .val (.int (1 : Int32))] [(.int (1 : Int32))])) (fun _ k => XS.iloadN X8.here hx rfl (hb hby at_65) rfl k) ?_
    refine Goes.step (B := T8.setTop (mkF m 67 #[.val (.int i0), .val (.int (4 : Int32)), .val (.int (1 : Int32)), .val (.int (1 : Int32))] [(.int (1 : Int32)), (.int (1 : Int32))])) (fun _ k => XS.iconst X8.here hx rfl (hb hby at_66) k) ?_
    refine Goes.step (B := T8.setTop (mkF m 72 #[.val (.int i0), .val (.int (4 : Int32)), .val (.int (1 : Int32)), .val (.int (1 : Int32))] [])) (fun _ k => XS.icmpYes X8.here hx rfl (pc0 := 67) (pc' := 72) rfl (hb hby at_67) rfl (teq (by decide)).1 (by decide) (by decide) k) ?_
    refine Goes.step (B := T8.setTop (mkF m 73 #[.val (.int i0), .val (.int (4 : Int32)), .val (.int (1 : Int32)), .val (.int (1 : Int32))] [(.int (1 : Int32))])) (fun _ k => XS.iloadN X8.here hx rfl (hb hby at_72) rfl k) ?_
    refine Goes.step (B := T8.setTop (mkF m 74 #[.val (.int i0), .val (.int (4 : Int32)), .val (.int (1 : Int32)), .val (.int (1 : Int32))] [(.int (4 : Int32)), (.int (1 : Int32))])) (fun _ k => XS.iloadN X8.here hx rfl (hb hby at_73) rfl k) ?_
    refine Goes.step (B := T8.setTop (mkF m 75 #[.val (.int i0), .val (.int (4 : Int32)), .val (.int (1 : Int32)), .val (.int (1 : Int32))] [(.int (1 : Int32)), (.int (4 : Int32)), (.int (1 : Int32))])) (fun _ k => XS.iconst X8.here hx rfl (hb hby at_74) k) ?_
    refine Goes.step (B := T8.setTop (mkF m 76 #[.val (.int i0), .val (.int (4 : Int32)), .val (.int (1 : Int32)), .val (.int (1 : Int32))] [(.int (3 : Int32)), (.int (1 : Int32))])) (fun _ k => XS.isub X8.here hx rfl (hb hby at_75) rfl k) ?_
    refine Goes.step (B := T8.setTop (mkF m 77 #[.val (.int i0), .val (.int (4 : Int32)), .val (.int (1 : Int32)), .val (.int (1 : Int32))] [(.int (1 : Int32)), (.int (3 : Int32)), (.int (1 : Int32))])) (fun _ k => XS.iloadN X8.here hx rfl (hb hby at_76) rfl k) ?_
    refine Goes.step (B := T8.setTop (mkF m 78 #[.val (.int i0), .val (.int (4 : Int32)), .val (.int (1 : Int32)), .val (.int (1 : Int32))] [(.int (3 : Int32)), (.int (1 : Int32))])) (fun _ k => XS.imul X8.here hx rfl (hb hby at_77) rfl k) ?_
    refine Goes.step (B := T8.setTop (mkF m 79 #[.val (.int i0), .val (.int (4 : Int32)), .val (.int (1 : Int32)), .val (.int (1 : Int32))] [(.int (4 : Int32))])) (fun _ k => XS.iadd X8.here hx rfl (hb hby at_78) rfl k) ?_
    refine Goes.step (B := T8.setTop (mkF m 80 #[.val (.int i0), .val (.int (4 : Int32)), .val (.int (1 : Int32)), .val (.int (1 : Int32))] [(.int (4 : Int32)), (.int (4 : Int32))])) (fun _ k => XS.iconst X8.here hx rfl (hb hby at_79) k) ?_
    refine Goes.step (B := T8.setTop (mkF m 83 #[.val (.int i0), .val (.int (4 : Int32)), .val (.int (1 : Int32)), .val (.int (1 : Int32))] [])) (fun _ k => XS.icmpNo X8.here hx rfl (hb hby at_80) rfl (teq (by decide)).2 k) ?_
    refine Goes.step (B := T8.setTop (mkF m 84 #[.val (.int i0), .val (.int (4 : Int32)), .val (.int (1 : Int32)), .val (.int (1 : Int32))] [(.int (1 : Int32))])) (fun _ k => XS.iconst X8.here hx rfl (hb hby at_83) k) ?_
    refine Goes.step (B := T8.setTop (mkF m 88 #[.val (.int i0), .val (.int (4 : Int32)), .val (.int (1 : Int32)), .val (.int (1 : Int32))] [(.int (1 : Int32))])) (fun _ k => XS.goto X8.here hx rfl (pc0 := 84) (pc' := 88) rfl (hb hby at_84) (by decide) (by decide) k) ?_
    exact Goes.retN X8 hx eh8 (t := .boolean) Bd.returns (by simp) hlk (hb hby at_88) (by decide) (by decide) (⟨rfl, N8⟩)
  · refine Goes.step (B := s₁.setTop (mkF m 9 #[.val (.int i0), .val (.int (5 : Int32)), .unset, .unset] [])) (fun _ k => XS.istoreN X0.here hx rfl (hb hby at_8) rfl (l' := #[.val (.int i0), .val (.int (5 : Int32)), .unset, .unset]) rfl k) ?_
    refine Goes.step (B := s₁.setTop (mkF m 10 #[.val (.int i0), .val (.int (5 : Int32)), .unset, .unset] [(.int (5 : Int32))])) (fun _ k => XS.iloadN X0.here hx rfl (hb hby at_9) rfl k) ?_
    refine Goes.step (B := s₁.setTop (mkF m 11 #[.val (.int i0), .val (.int (5 : Int32)), .unset, .unset] [(.int (1 : Int32)), (.int (5 : Int32))])) (fun _ k => XS.iconst X0.here hx rfl (hb hby at_10) k) ?_
    obtain ⟨_, _, ⟨T9, L9, k9, n9⟩, -, X9, ⟨Lc9, hQ9, l9, y9, z9⟩, st9⟩ := Jvm.LawKit.callS X0 hx (y := (⟨"com/example/starlane_tabletop/starlanetabletop/rules/TimelineRound", "commitments", "(IZ)I"⟩ : MethodName)) hown (mvT hZ (hw _ (List.mem_of_getElem? (i := 1) rfl))) (mvT hZ (hw _ (List.mem_of_getElem? (i := 2) rfl))) (mvT hZ (hw _ (List.mem_of_getElem? (i := 3) rfl))) (mvT hZ (hw _ (List.mem_of_getElem? (i := 4) rfl))) (by decide) (backOf (W := 0) (rm1 l Z a0 hw [] (5 : Int32) (1 : Int32) h0 n0 O0 (by decide) (by decide)) hZ (hw _ (List.mem_of_getElem? (i := 4) rfl)) (hw _ (List.mem_of_getElem? (i := 3) rfl)) (by decide) (by decide)) (g := (mkF m 11 #[.val (.int i0), .val (.int (5 : Int32)), .unset, .unset] [(.int (1 : Int32)), (.int (5 : Int32))])) rfl (by rw [hml]; rfl) (argsL := [(.int (5 : Int32)), (.int (1 : Int32))]) (rest := []) (lenOf pd_0 rfl) rfl (by show 2 * 0 + _ ≤ _; exact Nat.le_of_eq rfl) (hb hby at_11) (fun _ _ => ⟨rfl, e0, (by decide : 0 + 0 ≤ _), (by decide : 0 + 0 ≤ _)⟩)
    dsimp only [Pt.U, Pt.locs, Pt.cells, Pt.slots] at X9 l9 y9 z9 st9 hQ9
    subst l9 y9 z9
    obtain ⟨rfl, Nq9, eh9⟩ := hQ9
    have N9 := Fr.app N0 Nq9
    refine Goes.step (B := T9.setTop (mkF m 14 #[.val (.int i0), .val (.int (5 : Int32)), .unset, .unset] [(.int (own_com (5 : Int32) (1 : Int32)))])) st9 ?_
    rw [(by decide : (own_com (5 : Int32) (1 : Int32)) = (0 : Int32))]
    refine Goes.step (B := T9.setTop (mkF m 15 #[.val (.int i0), .val (.int (5 : Int32)), .val (.int (0 : Int32)), .unset] [])) (fun _ k => XS.istoreN X9.here hx rfl (hb hby at_14) rfl (l' := #[.val (.int i0), .val (.int (5 : Int32)), .val (.int (0 : Int32)), .unset]) rfl k) ?_
    refine Goes.step (B := T9.setTop (mkF m 16 #[.val (.int i0), .val (.int (5 : Int32)), .val (.int (0 : Int32)), .unset] [(.int (5 : Int32))])) (fun _ k => XS.iloadN X9.here hx rfl (hb hby at_15) rfl k) ?_
    refine Goes.step (B := T9.setTop (mkF m 17 #[.val (.int i0), .val (.int (5 : Int32)), .val (.int (0 : Int32)), .unset] [(.int (0 : Int32)), (.int (5 : Int32))])) (fun _ k => XS.iconst X9.here hx rfl (hb hby at_16) k) ?_
    obtain ⟨_, _, ⟨T10, L10, k10, n10⟩, -, X10, ⟨Lc10, hQ10, l10, y10, z10⟩, st10⟩ := Jvm.LawKit.callS X9 hx (y := (⟨"com/example/starlane_tabletop/starlanetabletop/rules/TimelineRound", "commitments", "(IZ)I"⟩ : MethodName)) hown (mvT hZ (hw _ (List.mem_of_getElem? (i := 1) rfl))) (mvT hZ (hw _ (List.mem_of_getElem? (i := 2) rfl))) (mvT hZ (hw _ (List.mem_of_getElem? (i := 3) rfl))) (mvT hZ (hw _ (List.mem_of_getElem? (i := 4) rfl))) (by decide) (backOf (W := 0) (rm1 l Z a0 hw [] (5 : Int32) (0 : Int32) h0 n0 O0 (by decide) (by decide)) hZ (hw _ (List.mem_of_getElem? (i := 4) rfl)) (hw _ (List.mem_of_getElem? (i := 3) rfl)) (by decide) (by decide)) (g := (mkF m 17 #[.val (.int i0), .val (.int (5 : Int32)), .val (.int (0 : Int32)), .unset] [(.int (0 : Int32)), (.int (5 : Int32))])) rfl (by rw [hml]; rfl) (argsL := [(.int (5 : Int32)), (.int (0 : Int32))]) (rest := []) (lenOf pd_0 rfl) rfl (by show 2 * 0 + _ ≤ _; exact Nat.le_of_eq rfl) (hb hby at_17) (fun _ _ => ⟨rfl, eh9, (by decide : 0 + 0 ≤ _), (by decide : 0 + 0 ≤ _)⟩)
    dsimp only [Pt.U, Pt.locs, Pt.cells, Pt.slots] at X10 l10 y10 z10 st10 hQ10
    subst l10 y10 z10
    obtain ⟨rfl, Nq10, eh10⟩ := hQ10
    have N10 := Fr.app N9 Nq10
    refine Goes.step (B := T10.setTop (mkF m 20 #[.val (.int i0), .val (.int (5 : Int32)), .val (.int (0 : Int32)), .unset] [(.int (own_com (5 : Int32) (0 : Int32)))])) st10 ?_
    rw [(by decide : (own_com (5 : Int32) (0 : Int32)) = (1 : Int32))]
    refine Goes.step (B := T10.setTop (mkF m 21 #[.val (.int i0), .val (.int (5 : Int32)), .val (.int (0 : Int32)), .val (.int (1 : Int32))] [])) (fun _ k => XS.istoreN X10.here hx rfl (hb hby at_20) rfl (l' := #[.val (.int i0), .val (.int (5 : Int32)), .val (.int (0 : Int32)), .val (.int (1 : Int32))]) rfl k) ?_
    refine Goes.step (B := T10.setTop (mkF m 22 #[.val (.int i0), .val (.int (5 : Int32)), .val (.int (0 : Int32)), .val (.int (1 : Int32))] [(.int (5 : Int32))])) (fun _ k => XS.iloadN X10.here hx rfl (hb hby at_21) rfl k) ?_
    refine Goes.step (B := T10.setTop (mkF m 23 #[.val (.int i0), .val (.int (5 : Int32)), .val (.int (0 : Int32)), .val (.int (1 : Int32))] [(.int (1 : Int32)), (.int (5 : Int32))])) (fun _ k => XS.iconst X10.here hx rfl (hb hby at_22) k) ?_
    refine Goes.step (B := T10.setTop (mkF m 40 #[.val (.int i0), .val (.int (5 : Int32)), .val (.int (0 : Int32)), .val (.int (1 : Int32))] [])) (fun _ k => XS.icmpYes X10.here hx rfl (pc0 := 23) (pc' := 40) rfl (hb hby at_23) rfl (feq (by decide)).2 (by decide) (by decide) k) ?_
    refine Goes.step (B := T10.setTop (mkF m 41 #[.val (.int i0), .val (.int (5 : Int32)), .val (.int (0 : Int32)), .val (.int (1 : Int32))] [(.int (0 : Int32))])) (fun _ k => XS.iloadN X10.here hx rfl (hb hby at_40) rfl k) ?_
    refine Goes.step (B := T10.setTop (mkF m 44 #[.val (.int i0), .val (.int (5 : Int32)), .val (.int (0 : Int32)), .val (.int (1 : Int32))] [])) (fun _ k => XS.ifNo X10.here hx rfl (hb hby at_41) rfl ((if0 _ _).trans (flt (by decide)).1) k) ?_
    refine Goes.step (B := T10.setTop (mkF m 45 #[.val (.int i0), .val (.int (5 : Int32)), .val (.int (0 : Int32)), .val (.int (1 : Int32))] [(.int (0 : Int32))])) (fun _ k => XS.iloadN X10.here hx rfl (hb hby at_44) rfl k) ?_
    refine Goes.step (B := T10.setTop (mkF m 46 #[.val (.int i0), .val (.int (5 : Int32)), .val (.int (0 : Int32)), .val (.int (1 : Int32))] [(.int (2 : Int32)), (.int (0 : Int32))])) (fun _ k => XS.iconst X10.here hx rfl (hb hby at_45) k) ?_
    refine Goes.step (B := T10.setTop (mkF m 49 #[.val (.int i0), .val (.int (5 : Int32)), .val (.int (0 : Int32)), .val (.int (1 : Int32))] [])) (fun _ k => XS.icmpNo X10.here hx rfl (hb hby at_46) rfl (flt (by decide)).2.2.1 k) ?_
    refine Goes.step (B := T10.setTop (mkF m 50 #[.val (.int i0), .val (.int (5 : Int32)), .val (.int (0 : Int32)), .val (.int (1 : Int32))] [(.int (1 : Int32))])) (fun _ k => XS.iloadN X10.here hx rfl (hb hby at_49) rfl k) ?_
    refine Goes.step (B := T10.setTop (mkF m 53 #[.val (.int i0), .val (.int (5 : Int32)), .val (.int (0 : Int32)), .val (.int (1 : Int32))] [])) (fun _ k => XS.ifNo X10.here hx rfl (hb hby at_50) rfl ((if0 _ _).trans (flt (by decide)).1) k) ?_
    refine Goes.step (B := T10.setTop (mkF m 54 #[.val (.int i0), .val (.int (5 : Int32)), .val (.int (0 : Int32)), .val (.int (1 : Int32))] [(.int (1 : Int32))])) (fun _ k => XS.iloadN X10.here hx rfl (hb hby at_53) rfl k) ?_
    refine Goes.step (B := T10.setTop (mkF m 55 #[.val (.int i0), .val (.int (5 : Int32)), .val (.int (0 : Int32)), .val (.int (1 : Int32))] [(.int (2 : Int32)), (.int (1 : Int32))])) (fun _ k => XS.iconst X10.here hx rfl (hb hby at_54) k) ?_
    refine Goes.step (B := T10.setTop (mkF m 60 #[.val (.int i0), .val (.int (5 : Int32)), .val (.int (0 : Int32)), .val (.int (1 : Int32))] [])) (fun _ k => XS.icmpYes X10.here hx rfl (pc0 := 55) (pc' := 60) rfl (hb hby at_55) rfl (flt (by decide)).2.2.2 (by decide) (by decide) k) ?_
    refine Goes.step (B := T10.setTop (mkF m 61 #[.val (.int i0), .val (.int (5 : Int32)), .val (.int (0 : Int32)), .val (.int (1 : Int32))] [(.int (5 : Int32))])) (fun _ k => XS.iloadN X10.here hx rfl (hb hby at_60) rfl k) ?_
    refine Goes.step (B := T10.setTop (mkF m 62 #[.val (.int i0), .val (.int (5 : Int32)), .val (.int (0 : Int32)), .val (.int (1 : Int32))] [(.int (3 : Int32)), (.int (5 : Int32))])) (fun _ k => XS.iconst X10.here hx rfl (hb hby at_61) k) ?_
    refine Goes.step (B := T10.setTop (mkF m 65 #[.val (.int i0), .val (.int (5 : Int32)), .val (.int (0 : Int32)), .val (.int (1 : Int32))] [])) (fun _ k => XS.icmpNo X10.here hx rfl (hb hby at_62) rfl (flt (by decide)).1 k) ?_
    refine Goes.step (B := T10.setTop (mkF m 66 #[.val (.int i0), .val (.int (5 : Int32)), .val (.int (0 : Int32)), .val (.int (1 : Int32))] [(.int (1 : Int32))])) (fun _ k => XS.iloadN X10.here hx rfl (hb hby at_65) rfl k) ?_
    refine Goes.step (B := T10.setTop (mkF m 67 #[.val (.int i0), .val (.int (5 : Int32)), .val (.int (0 : Int32)), .val (.int (1 : Int32))] [(.int (1 : Int32)), (.int (1 : Int32))])) (fun _ k => XS.iconst X10.here hx rfl (hb hby at_66) k) ?_
    refine Goes.step (B := T10.setTop (mkF m 72 #[.val (.int i0), .val (.int (5 : Int32)), .val (.int (0 : Int32)), .val (.int (1 : Int32))] [])) (fun _ k => XS.icmpYes X10.here hx rfl (pc0 := 67) (pc' := 72) rfl (hb hby at_67) rfl (teq (by decide)).1 (by decide) (by decide) k) ?_
    refine Goes.step (B := T10.setTop (mkF m 73 #[.val (.int i0), .val (.int (5 : Int32)), .val (.int (0 : Int32)), .val (.int (1 : Int32))] [(.int (0 : Int32))])) (fun _ k => XS.iloadN X10.here hx rfl (hb hby at_72) rfl k) ?_
    refine Goes.step (B := T10.setTop (mkF m 74 #[.val (.int i0), .val (.int (5 : Int32)), .val (.int (0 : Int32)), .val (.int (1 : Int32))] [(.int (5 : Int32)), (.int (0 : Int32))])) (fun _ k => XS.iloadN X10.here hx rfl (hb hby at_73) rfl k) ?_
    refine Goes.step (B := T10.setTop (mkF m 75 #[.val (.int i0), .val (.int (5 : Int32)), .val (.int (0 : Int32)), .val (.int (1 : Int32))] [(.int (1 : Int32)), (.int (5 : Int32)), (.int (0 : Int32))])) (fun _ k => XS.iconst X10.here hx rfl (hb hby at_74) k) ?_
    refine Goes.step (B := T10.setTop (mkF m 76 #[.val (.int i0), .val (.int (5 : Int32)), .val (.int (0 : Int32)), .val (.int (1 : Int32))] [(.int (4 : Int32)), (.int (0 : Int32))])) (fun _ k => XS.isub X10.here hx rfl (hb hby at_75) rfl k) ?_
    refine Goes.step (B := T10.setTop (mkF m 77 #[.val (.int i0), .val (.int (5 : Int32)), .val (.int (0 : Int32)), .val (.int (1 : Int32))] [(.int (1 : Int32)), (.int (4 : Int32)), (.int (0 : Int32))])) (fun _ k => XS.iloadN X10.here hx rfl (hb hby at_76) rfl k) ?_
    refine Goes.step (B := T10.setTop (mkF m 78 #[.val (.int i0), .val (.int (5 : Int32)), .val (.int (0 : Int32)), .val (.int (1 : Int32))] [(.int (4 : Int32)), (.int (0 : Int32))])) (fun _ k => XS.imul X10.here hx rfl (hb hby at_77) rfl k) ?_
    refine Goes.step (B := T10.setTop (mkF m 79 #[.val (.int i0), .val (.int (5 : Int32)), .val (.int (0 : Int32)), .val (.int (1 : Int32))] [(.int (4 : Int32))])) (fun _ k => XS.iadd X10.here hx rfl (hb hby at_78) rfl k) ?_
    refine Goes.step (B := T10.setTop (mkF m 80 #[.val (.int i0), .val (.int (5 : Int32)), .val (.int (0 : Int32)), .val (.int (1 : Int32))] [(.int (4 : Int32)), (.int (4 : Int32))])) (fun _ k => XS.iconst X10.here hx rfl (hb hby at_79) k) ?_
    refine Goes.step (B := T10.setTop (mkF m 83 #[.val (.int i0), .val (.int (5 : Int32)), .val (.int (0 : Int32)), .val (.int (1 : Int32))] [])) (fun _ k => XS.icmpNo X10.here hx rfl (hb hby at_80) rfl (teq (by decide)).2 k) ?_
    refine Goes.step (B := T10.setTop (mkF m 84 #[.val (.int i0), .val (.int (5 : Int32)), .val (.int (0 : Int32)), .val (.int (1 : Int32))] [(.int (1 : Int32))])) (fun _ k => XS.iconst X10.here hx rfl (hb hby at_83) k) ?_
    refine Goes.step (B := T10.setTop (mkF m 88 #[.val (.int i0), .val (.int (5 : Int32)), .val (.int (0 : Int32)), .val (.int (1 : Int32))] [(.int (1 : Int32))])) (fun _ k => XS.goto X10.here hx rfl (pc0 := 84) (pc' := 88) rfl (hb hby at_84) (by decide) (by decide) k) ?_
    exact Goes.retN X10 hx eh10 (t := .boolean) Bd.returns (by simp) hlk (hb hby at_88) (by decide) (by decide) (⟨rfl, N10⟩)
set_option maxRecDepth 65536 in
set_option maxHeartbeats 40000000 in
theorem comes_1 {Post : Tables → Env → Array Value → State → Outcome → State → Prop} (hpost : ∀ tb e args s v u, (limb_1_1.after args s (.returned v) u = true ∧ limb_1_2.after args s (.returned v) u = true ∧ True) → FrameEnd s (.returned v) u (Jvm.fieldLocs frame_1_writes args s ++ Jvm.arrayLocs frame_1_arrays args s ++ Jvm.staticLocs frame_1_statics s) 0 0 → Post tb e args s (.returned v) u) :
    ArmFor flags0 classFile x code maxLocals ret World_1 tables_1 room_1 Calls_1 rest_1 Pre_1 Post := by
  intro l hfl _ _ p e ha hc hk s m args below hf hA hF happ hP
  obtain ⟨hcalls, hrest, hpre⟩ := hP
  obtain ⟨-, -, -, hnamed, -, -, -, hat⟩ := (Spec.applies_iff hf).mp happ
  obtain ⟨hg, hn⟩ := and_e (Cond.before_iff.mp (show (Jvm.Cond.and given_1 narrow_1).before args s = true from hpre))
  obtain ⟨hcount, hg⟩ := and_e hg
  obtain ⟨w0, rfl⟩ : ∃ w0 : Value, args = #[w0] := by
    have hs : args.size = 1 := by simpa [Cond.value, given_1] using hcount
    obtain ⟨L⟩ := args
    match L, hs with
    | [w0], _ => exact ⟨w0, rfl⟩
  have hw := fun d (hd : d ∈ tables_1) => atoms_spec (ws := Jvm.Cond.code x code maxLocals ret :: tables_1) hat d (List.mem_cons_of_mem _ hd)
  have hfit : Fit s := fun {y c} hc i hi => by
    obtain ⟨ha, rfl⟩ := Array.getElem?_eq_some_iff.mp hc
    have q := List.all_eq_true.mp ((Array.all_eq_true_iff_forall_mem.mp hF) _ (Array.getElem_mem ha)) i (List.mem_range.mpr hi)
    simpa [Array.getElem?_eq_getElem hi] using q
  obtain ⟨i0, ei0⟩ := is_v hg
  obtain rfl : w0 = (.int i0) := Option.some.inj ei0
  obtain ⟨n, o, h1, h2, h3, _, L, rfl, ⟨rfl, N⟩, hq⟩ := rm0 l s _ hw tables_1 i0 s.heap s.heap.size (Old.start s)  p e ha hc hk s m _ below hf ((Spec.applies_iff_loose hf).mp happ).1 ⟨rfl, State.Warmed39.refl s, rfl⟩ trivial
  refine ⟨n, _, h1, h2, h3, hpost _ _ _ _ _ _ ⟨Cond.after_iff.mpr rfl, Cond.after_iff.mpr (eq_i res_at (Term.int_eval (1)) rfl), trivial⟩ ⟨hq.1, hq.2.1, (hq.2.2.sift fun y hy => Or.inr (N y hy)).mono (by decide) (by decide)⟩⟩
theorem main_1_1 : Claimed_1_1 := comes_1 fun _ _ _ _ _ _ h hF => ⟨h.1, hF⟩
theorem main_1_2 : Claimed_1_2 := comes_1 fun _ _ _ _ _ _ h hF => ⟨h.2.1, hF⟩
end Jvm.Pilot.@@N@@
namespace Jvm.Pilot.@@N@@
open Jvm Jvm.ClassFile Sem Op Lib Jvm.Free Jvm.Stand Jvm.Pilot.@@N@@.Jvm.D
/-! MADE BY PROGRAM (witnessworld.py) out of the Statement's table words and the real class files: 10 classes; the members and pool entries that the words name. The judged class is class 1, her method 1. -/
namespace start1
open Jvm.ClassFile
def u (s : String) : CpInfo := .utf8 (stringToUtf16 s)
/-- a pool by its gaps: so many unusable entries, then the entry; so many at the end -/
def gap : Nat → List CpInfo → List CpInfo
  | 0, r => r
  | n + 1, r => .unusable :: gap n r
def poolList (es : List (Nat × CpInfo)) (last : Nat) : List CpInfo := es.foldr (fun e r => gap e.1 (e.2 :: r)) (gap last [])
def pool (es : List (Nat × CpInfo)) (last : Nat) : Array CpInfo := ⟨poolList es last⟩
def fileOf (pool : Array CpInfo) (this : Nat) (attrs : Array Attribute := #[]) (ms : Array MethodInfo := #[]) (fl : Nat := 33) (sup : Nat := 0) (ifs : Array Nat := #[]) (fds : Array FieldInfo := #[]) : ClassFile where
  minorVersion := 0
  majorVersion := 65
  constantPool := pool
  accessFlags := fl
  thisClass := this
  superClass := sup
  interfaces := ifs
  fields := fds
  methods := ms
  attributes := attrs
def plain (name : String) (sup : Option ClassId) : Class where
  name := name
  kind := .ordinary
  loader := none
  accessFlags := 33
  super := sup
  interfaces := #[]
  cf := none
  fields := #[]
  methods := #[]
  instanceTypes := #[]
  staticTypes := #[]
  resolved := #[]
  callSites := []
  init := .initialized
  statics := none
  mirror := none

def pool0 : Array CpInfo := pool [(5, u "<init>"), (0, u "()V"), (1, .class_ 10), (1, u "java/lang/Object")] 113

def k0m0 : Method := { name := "<init>", desc := "()V", sig := { parameters := [], returnType := none }, accessFlags := 1, code := none }
/-- java/lang/Object -/
def k0 : Class := { plain "java/lang/Object" none with
  accessFlags := 33
  interfaces := #[]
  cf := some (fileOf pool0 8 #[] #[{ accessFlags := 1, nameIndex := 5, descriptorIndex := 6, attributes := #[] }] 33 0 #[] #[])
  fields := #[]
  methods := #[k0m0]
  instanceTypes := #[]
  staticTypes := #[]
  resolved := Array.replicate 124 none
  statics := none }

def pool1 : Array CpInfo := pool [(2, .class_ 4), (1, u "java/lang/Object"), (0, u "<init>"), (0, u "()V"), (0, .integer 2147483647), (0, .methodref 9 10), (0, .class_ 11), (0, .nameAndType 12 13), (0, u "com/example/starlane_tabletop/starlanetabletop/rules/TimelineRound"), (0, u "commitments"), (0, u "(IZ)I"), (0, .class_ 15), (0, u "com/example/starlane_tabletop/starlanetabletop/rules/TimelineRoundCommitmentsPinLaw"), (2, u "law"), (0, u "(I)Z")] 3

def k1m0 : Method := { name := "<init>", desc := "()V", sig := { parameters := [], returnType := none }, accessFlags := 2, code := none }
def k1c1 : Code := { maxStack := 3, maxLocals := 4, code := code, exceptionTable := #[], attributes := #[] }
def k1m1 : Method := { name := "law", desc := "(I)Z", sig := { parameters := [.int], returnType := some .boolean }, accessFlags := 9, code := some k1c1 }
/-- com/example/starlane_tabletop/starlanetabletop/rules/TimelineRoundCommitmentsPinLaw -/
def k1 : Class := { plain "com/example/starlane_tabletop/starlanetabletop/rules/TimelineRoundCommitmentsPinLaw" (some 0) with
  accessFlags := 49
  interfaces := #[]
  cf := some (fileOf pool1 14 #[] #[{ accessFlags := 2, nameIndex := 5, descriptorIndex := 6, attributes := #[] }, { accessFlags := 9, nameIndex := 18, descriptorIndex := 19, attributes := #[] }] 49 2 #[] #[])
  fields := #[]
  methods := #[k1m0, k1m1]
  instanceTypes := #[]
  staticTypes := #[]
  resolved := Array.replicate 23 none
  statics := none }

def pool2 : Array CpInfo := pool [(2, .class_ 4), (1, u "com/example/starlane_tabletop/starlanetabletop/rules/InPlay"), (39, .class_ 45), (0, u "java/lang/Object")] 27

/-- com/example/starlane_tabletop/starlanetabletop/rules/InPlay -/
def k2 : Class := { plain "com/example/starlane_tabletop/starlanetabletop/rules/InPlay" (some 0) with
  accessFlags := 1537
  interfaces := #[]
  cf := some (fileOf pool2 2 #[] #[] 1537 44 #[] #[])
  fields := #[]
  methods := #[]
  instanceTypes := #[]
  staticTypes := #[]
  resolved := Array.replicate 73 none
  statics := none }

def pool3 : Array CpInfo := pool [(2, .class_ 4), (1, u "java/lang/Object"), (6, .class_ 13), (1, u "com/example/starlane_tabletop/starlanetabletop/rules/TimelineRound"), (0, u "faceDown"), (0, u "Ljava/util/List;"), (2, u "commitments"), (2, u "revealed"), (8, u "drawn"), (2, u "options"), (2, u "state"), (0, u "Lcom/example/starlane_tabletop/starlanetabletop/model/TimelineState;"), (2, u "record"), (0, u "Ljava/util/function/Consumer;"), (2, u "log"), (4, u "captain"), (3, u "I"), (50, u "peek"), (65, u "commandPhase"), (0, u "Lcom/example/starlane_tabletop/starlanetabletop/rules/CommandPhase;"), (4, u "decision"), (3, u "Lcom/example/starlane_tabletop/starlanetabletop/rules/Decision;"), (5, .class_ 188), (1, u "com/example/starlane_tabletop/starlanetabletop/rules/InPlay"), (27, u "onPick"), (0, u "Ljava/util/function/IntConsumer;"), (33, u "(IZ)I"), (47, u "EXCHANGES"), (200, u "SLOTS"), (2, u "LAST_ROUND"), (1, u "HACKER_SEES")] 113

def k3c0 : Code := { maxStack := 1, maxLocals := 2, code := prog_58_method_4_code, exceptionTable := #[], attributes := #[] }
def k3m0 : Method := { name := "commitments", desc := "(IZ)I", sig := { parameters := [.int, .boolean], returnType := some .int }, accessFlags := 8, code := some k3c0 }
/-- com/example/starlane_tabletop/starlanetabletop/rules/TimelineRound -/
def k3 : Class := { plain "com/example/starlane_tabletop/starlanetabletop/rules/TimelineRound" (some 0) with
  accessFlags := 49
  interfaces := #[2]
  cf := some (fileOf pool3 11 #[] #[{ accessFlags := 8, nameIndex := 18, descriptorIndex := 251, attributes := #[] }] 49 2 #[186] #[{ accessFlags := 25, nameIndex := 500, descriptorIndex := 53, attributes := #[] }, { accessFlags := 25, nameIndex := 503, descriptorIndex := 53, attributes := #[] }, { accessFlags := 26, nameIndex := 505, descriptorIndex := 53, attributes := #[] }, { accessFlags := 26, nameIndex := 299, descriptorIndex := 15, attributes := #[] }, { accessFlags := 18, nameIndex := 36, descriptorIndex := 37, attributes := #[] }, { accessFlags := 18, nameIndex := 40, descriptorIndex := 41, attributes := #[] }, { accessFlags := 18, nameIndex := 44, descriptorIndex := 41, attributes := #[] }, { accessFlags := 18, nameIndex := 49, descriptorIndex := 53, attributes := #[] }, { accessFlags := 2, nameIndex := 104, descriptorIndex := 15, attributes := #[] }, { accessFlags := 18, nameIndex := 14, descriptorIndex := 15, attributes := #[] }, { accessFlags := 18, nameIndex := 18, descriptorIndex := 15, attributes := #[] }, { accessFlags := 18, nameIndex := 21, descriptorIndex := 15, attributes := #[] }, { accessFlags := 2, nameIndex := 30, descriptorIndex := 15, attributes := #[] }, { accessFlags := 2, nameIndex := 170, descriptorIndex := 171, attributes := #[] }, { accessFlags := 2, nameIndex := 176, descriptorIndex := 180, attributes := #[] }, { accessFlags := 2, nameIndex := 33, descriptorIndex := 15, attributes := #[] }, { accessFlags := 2, nameIndex := 216, descriptorIndex := 217, attributes := #[] }])
  fields := #[{ name := "SLOTS", type := .int, accessFlags := 25, slot := 0, constantValue := 0 }, { name := "LAST_ROUND", type := .int, accessFlags := 25, slot := 1, constantValue := 0 }, { name := "HACKER_SEES", type := .int, accessFlags := 26, slot := 2, constantValue := 0 }, { name := "EXCHANGES", type := (.object "java/util/List"), accessFlags := 26, slot := 3, constantValue := 0 }, { name := "state", type := (.object "com/example/starlane_tabletop/starlanetabletop/model/TimelineState"), accessFlags := 18, slot := 0, constantValue := 0 }, { name := "record", type := (.object "java/util/function/Consumer"), accessFlags := 18, slot := 1, constantValue := 0 }, { name := "log", type := (.object "java/util/function/Consumer"), accessFlags := 18, slot := 2, constantValue := 0 }, { name := "captain", type := .int, accessFlags := 18, slot := 3, constantValue := 0 }, { name := "peek", type := (.object "java/util/List"), accessFlags := 2, slot := 4, constantValue := 0 }, { name := "faceDown", type := (.object "java/util/List"), accessFlags := 18, slot := 5, constantValue := 0 }, { name := "commitments", type := (.object "java/util/List"), accessFlags := 18, slot := 6, constantValue := 0 }, { name := "revealed", type := (.object "java/util/List"), accessFlags := 18, slot := 7, constantValue := 0 }, { name := "drawn", type := (.object "java/util/List"), accessFlags := 2, slot := 8, constantValue := 0 }, { name := "commandPhase", type := (.object "com/example/starlane_tabletop/starlanetabletop/rules/CommandPhase"), accessFlags := 2, slot := 9, constantValue := 0 }, { name := "decision", type := (.object "com/example/starlane_tabletop/starlanetabletop/rules/Decision"), accessFlags := 2, slot := 10, constantValue := 0 }, { name := "options", type := (.object "java/util/List"), accessFlags := 2, slot := 11, constantValue := 0 }, { name := "onPick", type := (.object "java/util/function/IntConsumer"), accessFlags := 2, slot := 12, constantValue := 0 }]
  methods := #[k3m0]
  instanceTypes := #[(.object "com/example/starlane_tabletop/starlanetabletop/model/TimelineState"), (.object "java/util/function/Consumer"), (.object "java/util/function/Consumer"), .int, (.object "java/util/List"), (.object "java/util/List"), (.object "java/util/List"), (.object "java/util/List"), (.object "java/util/List"), (.object "com/example/starlane_tabletop/starlanetabletop/rules/CommandPhase"), (.object "com/example/starlane_tabletop/starlanetabletop/rules/Decision"), (.object "java/util/List"), (.object "java/util/function/IntConsumer")]
  staticTypes := #[.int, .int, .int, (.object "java/util/List")]
  resolved := Array.replicate 619 none
  statics := none }

def pool4 : Array CpInfo := pool [(1, u "java/lang/Cloneable"), (0, .class_ 1), (0, u "java/lang/Object"), (0, .class_ 3)] 3

/-- java/lang/Cloneable -/
def k4 : Class := { plain "java/lang/Cloneable" (some 0) with
  accessFlags := 1537
  interfaces := #[]
  cf := some (fileOf pool4 2 #[] #[] 1537 4 #[] #[])
  fields := #[]
  methods := #[]
  instanceTypes := #[]
  staticTypes := #[]
  resolved := Array.replicate 8 none
  statics := none }

def pool5 : Array CpInfo := pool [(1, u "java/io/Serializable"), (0, .class_ 1), (0, u "java/lang/Object"), (0, .class_ 3)] 3

/-- java/io/Serializable -/
def k5 : Class := { plain "java/io/Serializable" (some 0) with
  accessFlags := 1537
  interfaces := #[]
  cf := some (fileOf pool5 2 #[] #[] 1537 4 #[] #[])
  fields := #[]
  methods := #[]
  instanceTypes := #[]
  staticTypes := #[]
  resolved := Array.replicate 8 none
  statics := none }

/-- the primitive byte -/
def k6 : Class := { plain "byte" none with kind := .primitive 'B', accessFlags := 0x411 }
/-- [B -/
def k7 : Class := { plain "[B" (some 0) with kind := .array 6 .byte, interfaces := #[4, 5], accessFlags := 1041 }

/-- the primitive int -/
def k8 : Class := { plain "int" none with kind := .primitive 'I', accessFlags := 0x411 }
/-- [I -/
def k9 : Class := { plain "[I" (some 0) with kind := .array 8 .int, interfaces := #[4, 5], accessFlags := 1041 }

def heap : Heap := #[]
def classes : Array Class := #[k0, k1, k2, k3, k4, k5, k6, k7, k8, k9]
def interned : List (Array UInt16 × Addr) := []
def slotsUsed : Nat := 0
def theMethod : MethodId := ⟨1, 1⟩
def args0 : Array Value := #[.int 5]
def aboutOver (below : List Frame) : State where
  vm := { classes := classes, interned := interned.toArray }
  heap := heap
  slotsUsed := slotsUsed
  threads := #[{ frames := .invoking theMethod args0 :: below }]
def below0 : List Frame := [.native { method := ⟨0, 0⟩, args := #[] }]
def about1 : State := aboutOver below0
def p0 : Program := .bare "" "" ""
def e0 : Env := launch0.env 0 0 0
theorem w_frames : about1.frames = Frame.invoking theMethod args0 :: below0 := rfl
set_option maxRecDepth 65536 in
theorem w_args : argsFit about1.vm theMethod args0 = true := by decide +kernel
set_option maxRecDepth 65536 in
theorem w_heap : heapFits about1 = true := by decide +kernel
set_option maxRecDepth 65536 in
theorem w_runnable : about1.curStatus? = some .runnable := by decide +kernel
set_option maxRecDepth 65536 in
theorem w_alone : about1.alone = true := by decide +kernel
set_option maxRecDepth 65536 in
theorem w_named : about1.methodNamed? x = some theMethod := by decide +kernel
set_option maxRecDepth 65536 in
theorem w_hears : about1.hears theMethod below0 = true := by decide +kernel
set_option maxRecDepth 65536 in
theorem w_ripe : about1.ripe theMethod args0 below0 = true := by decide +kernel
theorem w_running : about1.status = .running := rfl
set_option maxRecDepth 65536 in
theorem w_room : about1.hasRoom e0.platform room_1 = true :=
  launch0.hasRoom_least _ room_1 (by decide +kernel) (by decide +kernel) (by decide +kernel) (by decide +kernel) (by decide +kernel) (by decide +kernel)
theorem allAtoms_all (ts : List Jvm.Cond) (a : Array Jvm.Value) (st : Jvm.State) : (allAtoms ts).before a st = ts.all (fun c => c.before a st) := by
  induction ts with
  | nil => rfl
  | cons c t ih =>
    show (Jvm.Cond.and c (allAtoms t)).before a st = _
    rw [Jvm.Cond.before_and, ih, List.all_cons]
def words1 : List Jvm.Cond := Jvm.Cond.code x code maxLocals ret :: tables_1
/-- a 'code' word, met by the world's own term for the bytes: nothing is compared byte by byte -/
theorem code_word {y : MethodName} {bytes : ByteArray} {mx : Nat} {rt : Option FieldType} {a : Array Value} {s : State} {m : MethodId} {meth : Method} {c : Code} (h1 : s.methodNamed? y = some m) (h2 : s.vm.method? m = some meth) (h3 : meth.code = some c) (h4 : c.code = bytes)
    (h5 : (c.maxLocals == mx && c.exceptionTable.isEmpty && decide (c.maxStack ≤ mostOperands) && decide (meth.sig.returnType = rt) && !meth.locks && decide (parseMethodDescriptor y.desc = some meth.sig)) = true) : (Jvm.Cond.code y bytes mx rt).before a s = true := by
  simp only [Bool.and_eq_true, beq_iff_eq, Bool.not_eq_true', decide_eq_true_eq] at h5
  obtain ⟨⟨⟨⟨⟨g1, g2⟩, g3⟩, g4⟩, g5⟩, g6⟩ := h5
  simp [Cond.before, Cond.holds, Cond.value, h1, h2, h3, h4, g1, g2, g3, g4, g5, g6]
def isCode : Jvm.Cond → Bool
  | .code _ _ _ _ => true
  | _ => false
theorem all_split {L : List Jvm.Cond} {P : Jvm.Cond → Bool} (h1 : L.all (fun c => isCode c || P c) = true) (h2 : ∀ c ∈ L.filter isCode, P c = true) : L.all P = true := by
  refine List.all_eq_true.mpr fun c hc => ?_
  have h := List.all_eq_true.mp h1 c hc
  rcases Bool.eq_false_or_eq_true (isCode c) with hi | hi
  · exact h2 c (List.mem_filter.mpr ⟨hc, hi⟩)
  · simpa [hi] using h
set_option maxRecDepth 65536 in
theorem w_c0 : (Jvm.Cond.code x code maxLocals ret).before args0 about1 = true := code_word (m := ⟨1, 1⟩) (meth := k1m1) (c := k1c1) (by decide +kernel) rfl rfl rfl (by decide +kernel)
set_option maxRecDepth 65536 in
theorem w_c1 : (Jvm.Cond.code ({ cls := "com/example/starlane_tabletop/starlanetabletop/rules/TimelineRound", name := "commitments", desc := "(IZ)I" } : Jvm.MethodName) prog_58_method_4_code (2 : Nat) (Option.some Jvm.ClassFile.FieldType.int)).before args0 about1 = true := code_word (m := ⟨3, 0⟩) (meth := k3m0) (c := k3c0) (by decide +kernel) rfl rfl rfl (by decide +kernel)
def codes1 : List Jvm.Cond := [Jvm.Cond.code x code maxLocals ret, Jvm.Cond.code ({ cls := "com/example/starlane_tabletop/starlanetabletop/rules/TimelineRound", name := "commitments", desc := "(IZ)I" } : Jvm.MethodName) prog_58_method_4_code (2 : Nat) (Option.some Jvm.ClassFile.FieldType.int)]
set_option maxRecDepth 65536 in
theorem codes_eq : words1.filter isCode = codes1 := rfl
theorem w_codes : ∀ c ∈ words1.filter isCode, c.before args0 about1 = true := by
  rw [codes_eq]
  intro c hc
  simp only [codes1, List.mem_cons, List.not_mem_nil, or_false] at hc
  rcases hc with rfl | rfl
  · exact w_c0
  · exact w_c1
set_option maxRecDepth 65536 in
theorem w_t1 : words1.all (fun c => isCode c || c.before args0 about1) = true := by decide +kernel
theorem w_tables : (allAtoms (Jvm.Cond.code x code maxLocals ret :: tables_1)).before args0 about1 = true := by
  rw [allAtoms_all]
  show words1.all (fun c => c.before args0 about1) = true
  refine all_split ?_ w_codes
  rw [w_t1]
set_option maxRecDepth 65536 in
theorem w_case : (Jvm.Cond.and given_1 narrow_1).before args0 about1 = true := by decide +kernel
theorem w_applies : (headSpec (Jvm.Cond.code x code maxLocals ret :: tables_1) room_1).applies x e0.platform about1 = true :=
  (Spec.applies_iff w_frames).mpr ⟨w_running, w_runnable, w_alone, w_named, w_hears, w_ripe, w_room, w_tables⟩
theorem atStart : AtStart classFile x code maxLocals ret World_1 tables_1 room_1 Calls_1 rest_1 Pre_1 launch0 p0 e0 about1 theMethod args0 below0 :=
  ⟨lists_1, trivial, launch0.admits_env _ _ _, launch0.least_env, fairChoices_fair.cas, fairChoices_fair.clock, w_frames, w_args, w_heap, w_applies, trivial, trivial, w_case⟩
end start1
theorem witness_1 : WitnessClaimed_1 := ⟨start1.p0, start1.e0, start1.about1, start1.theMethod, start1.args0, start1.below0, start1.atStart⟩
end Jvm.Pilot.@@N@@
