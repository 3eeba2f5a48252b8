import JvmDerived
import JvmDerived.Pilot.@@N@@Statement
import JvmDerived.Pilot.@@N@@Code
set_option linter.unusedVariables false
set_option linter.unusedSimpArgs false
namespace Jvm.RoadKit
open Sem ClassFile Op Lib Jvm.Stand Jvm.Free Jvm.LawKit
section Own
variable {p : Program} {l : Launch} {e : Env} {R : Room} {s : State} {m : MethodId} {args : Array Value} {below : List Frame} {meth : Method} {c : Code} {T : State} {locs : List Loc} {cells slots : Nat} {Q : Option Value → Heap → List Loc → Prop} {k n : Nat} {A B : State} {h : Heap}
/-- from the state A the run comes to its end, with what Q says -/
def Goes (p : Program) (e : Env) (below : List Frame) (s : State) (Q : Option Value → Heap → List Loc → Prop) (k n : Nat) (A : State) : Prop :=
  ∃ s₂ o, Steps p.tables e below A s₂ ∧ s₂.status = .running ∧ Ended s₂ below o ∧ ∃ v L, o = .returned v ∧ Q v s₂.heap L ∧ FrameEnd s o s₂ L k n
theorem Goes.step (q : ∀ t, Steps p.tables e below B t → Steps p.tables e below A t) (g : Goes p e below s Q k n B) : Goes p e below s Q k n A := by
  obtain ⟨s₂, o, h1, h2⟩ := g
  exact ⟨s₂, o, q _ h1, h2⟩
theorem Goes.via (q : Steps p.tables e below A B) (g : Goes p e below s Q k n B) : Goes p e below s Q k n A := by
  obtain ⟨s₂, o, h1, h2⟩ := g
  exact ⟨s₂, o, q.trans h1, h2⟩
theorem Goes.enter {g g' : JFrame} (q : g = g') (h : Goes p e below s Q k n (T.setTop g')) : Goes p e below s Q k n (T.setTop g) := q ▸ h
theorem Goes.out (X : Stand p l e R s m args below meth c T locs cells slots) (eT : T.heap = h) {v : Option Value} (hv : meth.sig.returnType = none → v = none) (hlk : meth.locks = false)
    (hs : ∀ fs, (∀ (f : JFrame) (acts : List Action), f.method = m → f.locked = none → f.entered = [] → (doReturn e (T.setTop f) acts v).1 = T.setFrames fs) → Steps p.tables e below A (T.setFrames fs)) (hk : cells ≤ k) (hn : slots ≤ n) (hQ : Q v h locs) : Goes p e below s Q k n A := by
  obtain ⟨fs, hr, hrun, hended, hW, hsame⟩ := X.leave (v := v) hv hlk
  exact ⟨_, _, hs fs hr, hrun, hended, _, _, rfl, (by show Q v T.heap locs; rw [eT]; exact hQ), ⟨_, rfl⟩, hW, hsame.mono hk hn⟩
theorem own_some {t : FieldType} {v : Option Value} (h : meth.sig.returnType = some t) : meth.sig.returnType = none → v = none := fun q => by rw [h] at q; cases q
theorem Goes.retI (X : Stand p l e R s m args below meth c T locs cells slots) (hx : p.tables.exec = Jvm.exec) (eT : T.heap = h) {pc : Nat} {Ls : Array Slot} {z : Int32} {rest : List Value} (hret : meth.sig.returnType = some .int) (hlk : meth.locks = false) (hd : decode c.code pc = .ok (.ireturn, 1)) (hk : cells ≤ k) (hn : slots ≤ n) (hQ : Q (some (.int z)) h locs) :
    Goes p e below s Q k n (T.setTop (mkF m pc Ls (.int z :: rest))) :=
  Goes.out X eT (own_some hret) hlk (fun fs hr => retOut X hx hret rfl (Or.inl ⟨rfl, Or.inl rfl, z, rfl⟩) hd hr) hk hn hQ
theorem Goes.retN (X : Stand p l e R s m args below meth c T locs cells slots) (hx : p.tables.exec = Jvm.exec) (eT : T.heap = h) {pc : Nat} {Ls : Array Slot} {z : Int32} {t : FieldType} {rest : List Value} (hret : meth.sig.returnType = some t) (ht : t = .boolean ∨ t = .byte ∨ t = .char ∨ t = .short) (hlk : meth.locks = false) (hd : decode c.code pc = .ok (.ireturn, 1)) (hk : cells ≤ k) (hn : slots ≤ n) (hQ : Q (some (.int (nar t z))) h locs) :
    Goes p e below s Q k n (T.setTop (mkF m pc Ls (.int z :: rest))) :=
  Goes.out X eT (own_some hret) hlk (fun fs hr => Jvm.RoadKit.retN X hx hret ht hd hr) hk hn hQ
theorem Goes.retV (X : Stand p l e R s m args below meth c T locs cells slots) (hx : p.tables.exec = Jvm.exec) (eT : T.heap = h) {pc : Nat} {Ls : Array Slot} (hret : meth.sig.returnType = none) (hlk : meth.locks = false) (hd : decode c.code pc = .ok (.return_, 1)) (hk : cells ≤ k) (hn : slots ≤ n) (hQ : Q none h locs) :
    Goes p e below s Q k n (T.setTop (mkF m pc Ls [])) :=
  Goes.out X eT (fun _ => rfl) hlk (fun fs hr => X.returnOut hx hret hd hr) hk hn hQ
theorem Goes.retJ (X : Stand p l e R s m args below meth c T locs cells slots) (hx : p.tables.exec = Jvm.exec) (eT : T.heap = h) {pc : Nat} {Ls : Array Slot} {z : Int64} {rest : List Value} (hret : meth.sig.returnType = some .long) (hlk : meth.locks = false) (hd : decode c.code pc = .ok (.lreturn, 1)) (hk : cells ≤ k) (hn : slots ≤ n) (hQ : Q (some (.long z)) h locs) :
    Goes p e below s Q k n (T.setTop (mkF m pc Ls (.long z :: rest))) :=
  Goes.out X eT (own_some hret) hlk (fun fs hr => retOut X hx hret rfl (Or.inr (Or.inl ⟨rfl, rfl, z, rfl⟩)) hd hr) hk hn hQ
theorem Goes.retD (X : Stand p l e R s m args below meth c T locs cells slots) (hx : p.tables.exec = Jvm.exec) (eT : T.heap = h) {pc : Nat} {Ls : Array Slot} {z : UInt64} {rest : List Value} (hret : meth.sig.returnType = some .double) (hlk : meth.locks = false) (hd : decode c.code pc = .ok (.dreturn, 1)) (hk : cells ≤ k) (hn : slots ≤ n) (hQ : Q (some (.double z)) h locs) :
    Goes p e below s Q k n (T.setTop (mkF m pc Ls (.double z :: rest))) :=
  Goes.out X eT (own_some hret) hlk (fun fs hr => retOut X hx hret rfl (Or.inr (Or.inr (Or.inl ⟨rfl, rfl, z, rfl⟩))) hd hr) hk hn hQ
theorem own_narR {t : FieldType} {w : Value} (h : t.isReference = true) : narrow t w = w := by cases t <;> first | rfl | (cases w <;> first | rfl | cases h)
theorem Goes.retA (X : Stand p l e R s m args below meth c T locs cells slots) (hx : p.tables.exec = Jvm.exec) (eT : T.heap = h) {pc : Nat} {Ls : Array Slot} {w : Value} {t : FieldType} {rest : List Value} (hret : meth.sig.returnType = some t) (ht : t.isReference = true) (hw : w.isRef = true) (hlk : meth.locks = false) (hd : decode c.code pc = .ok (.areturn, 1)) (hk : cells ≤ k) (hn : slots ≤ n) (hQ : Q (some w) h locs) :
    Goes p e below s Q k n (T.setTop (mkF m pc Ls (w :: rest))) :=
  Goes.out X eT (own_some hret) hlk (fun fs hr => retOut X hx hret (own_narR ht) (Or.inr (Or.inr (Or.inr (Or.inr ⟨rfl, ht, hw⟩)))) hd hr) hk hn hQ
theorem own_z {Z : State} {n0 : Nat} (O : Old Z n0 h) : n0 ≤ h.size := O.1 ▸ O.2.1
end Own
end Jvm.RoadKit
namespace Jvm.Pilot.@@N@@
open Jvm Jvm.ClassFile Sem Op Lib Jvm.Free Jvm.Stand Jvm.LawKit Jvm.RoadKit Bundle Jvm.Pilot.@@N@@.Jvm.D
theorem own_pos {x z : Int32} (h : z = (x &&& (2147483647 : Int32))) (hz : ¬ z = (0 : Int32)) : 1 ≤ z.toInt := by
  have a := c_mask x 2147483647 31 (by decide) (by decide)
  rw [← h] at a
  have b : z.toInt ≠ 0 := fun q => hz (Int32.toInt_inj.mp q)
  omega
theorem own_lt {z : Int32} (h : 1 ≤ z.toInt) : (0 : Int32) < z := by
  rw [Int32.lt_iff_toInt_lt]
  have e : (0 : Int32).toInt = 0 := by decide
  omega
theorem own_posL {x z : Int64} (h : z = (x &&& (9223372036854775807 : Int64))) (hz : ¬ z = (0 : Int64)) : (0 : Int64) < z := by
  have a := c_maskL x 9223372036854775807 63 (by decide) (by decide)
  rw [← h] at a
  have b : z.toInt ≠ 0 := fun q => hz (Int64.toInt_inj.mp q)
  rw [Int64.lt_iff_toInt_lt]
  have e : (0 : Int64).toInt = 0 := by decide
  omega
theorem own_w {m s : Int32} {z : Int64} (hz : z = (((m.toInt64) - (1 : Int64)) / (s.toInt64)) + (1 : Int64)) (hm : 1 ≤ m.toInt) (hs : 1 ≤ s.toInt) :
    ¬ z < (1 : Int64) ∧ ¬ (2147483647 : Int64) < z ∧ ¬ (z * (s.toInt64)) < (m.toInt64) ∧ ((z - (1 : Int64)) * (s.toInt64)) < (m.toInt64) := by
  have rm := rng32 m
  have rs := rng32 s
  have rz := rng64 z
  have m1 := c_i2l m
  have s1 := c_i2l s
  have e1 : (1 : Int64).toInt = 1 := by decide
  have eM : (2147483647 : Int64).toInt = 2147483647 := by decide
  have a := c_lsub m.toInt64 1
  have ra := rng64 (m.toInt64 - 1)
  have a' : (m.toInt64 - 1).toInt = m.toInt - 1 := by omega
  have hne : s.toInt64 ≠ -1 := fun q => by
    have q' := congrArg Int64.toInt q
    have e2 : (-1 : Int64).toInt = -1 := by decide
    omega
  have d := (c_ldiv (m.toInt64 - 1) s.toInt64 s.toInt s1 hne).1 (by omega)
  rw [a'] at d
  have q0 : 0 ≤ (m.toInt - 1) / s.toInt := Int.ediv_nonneg (by omega) (by omega)
  have q1 : (m.toInt - 1) / s.toInt ≤ m.toInt - 1 := Int.ediv_le_self _ (by omega)
  have q2 := Int.mul_ediv_add_emod (m.toInt - 1) s.toInt
  have q3 := Int.emod_nonneg (m.toInt - 1) (b := s.toInt) (by omega)
  have q4 := Int.emod_lt_of_pos (m.toInt - 1) (b := s.toInt) (by omega)
  have b := c_ladd ((m.toInt64 - 1) / s.toInt64) 1
  rw [← hz] at b
  generalize hQ : (m.toInt - 1) / s.toInt = Q at *
  have z1 : z.toInt = Q + 1 := by omega
  have f := c_lmul z s.toInt64
  have rf := rng64 (z * s.toInt64)
  have k := c_lsub z 1
  have rk := rng64 (z - 1)
  have k' : (z - 1).toInt = Q := by omega
  have n := c_lmul (z - 1) s.toInt64
  have rn := rng64 ((z - 1) * s.toInt64)
  rw [z1, s1, Int.add_mul, Int.one_mul, Int.mul_comm] at f
  rw [k', s1, Int.mul_comm] at n
  generalize s.toInt * Q = P at *
  refine ⟨?_, ?_, ?_, ?_⟩
  · rw [Int64.lt_iff_toInt_lt]; omega
  · rw [Int64.lt_iff_toInt_lt]; omega
  · rw [Int64.lt_iff_toInt_lt]; omega
  · rw [Int64.lt_iff_toInt_lt]; omega
theorem own_nz {s : Int32} (hs : 1 ≤ s.toInt) : s.toInt64 ≠ 0 := fun q => by
  have q' := congrArg Int64.toInt q
  have e2 : (0 : Int64).toInt = 0 := by decide
  have s1 := c_i2l s
  omega
theorem d1_0 : decode method_2_code 0 = .ok (.iload_n 0, 1) := by decide +kernel
theorem d1_1 : decode method_2_code 1 = .ok (.ldc 7, 2) := by decide +kernel
theorem d1_3 : decode method_2_code 3 = .ok (.iand, 1) := by decide +kernel
theorem d1_4 : decode method_2_code 4 = .ok (.istore_n 1, 1) := by decide +kernel
theorem d1_5 : decode method_2_code 5 = .ok (.iload_n 1, 1) := by decide +kernel
theorem d1_6 : decode method_2_code 6 = .ok (.ifCond .ne 5, 3) := by decide +kernel
theorem d1_9 : decode method_2_code 9 = .ok (.iconst 1, 1) := by decide +kernel
theorem d1_10 : decode method_2_code 10 = .ok (.istore_n 1, 1) := by decide +kernel
theorem d1_11 : decode method_2_code 11 = .ok (.iload_n 1, 1) := by decide +kernel
theorem d1_12 : decode method_2_code 12 = .ok (.ireturn, 1) := by decide +kernel
theorem pn_NewRunMapWavesPinLaw : plainName "wavecast/estimate/NewRunMapWavesPinLaw" = true := by first | (simp [plainName, overriddenIn]; done) | decide +kernel
theorem ef_rm1 (m : MethodId) (x0 : Int32) : entryFrame m #[(.int x0)] 2 = mkF m 0 #[.val (.int x0), .unset] [] := by first | (simp [entryFrame, mkF, argsToLocals, Value.category]; done) | rfl
def Q1 (Z : State) (p1 : Int32) (h0 : Heap) (n0 : Nat) (v : Option Value) (h : Heap) (L : List Loc) : Prop := ∃ (r : Int32), v = some (.int r) ∧ 1 ≤ r.toInt ∧ Fr n0 L ∧ h = h0
set_option maxRecDepth 65536 in
set_option maxHeartbeats 40000000 in
theorem rm1 (l : Launch) (Z : State) (a0 : Array Value) (hw : ∀ d ∈ tables_1, d.before a0 Z = true) (ws : List Jvm.Cond) (p1 : Int32) (h0 : Heap) (n0 : Nat) (O0 : Old Z n0 h0) :
    MetFree l (⟨"wavecast/estimate/NewRunMapWavesPinLaw", "positive", "(I)I"⟩ : MethodName) (head1 (Jvm.Cond.code (⟨"wavecast/estimate/NewRunMapWavesPinLaw", "positive", "(I)I"⟩ : MethodName) method_2_code 2 (some .int) :: ws) ({ frames := 0, cells := 0, slots := 0, locals := 0 } : Room)) (fun a U => a = #[(.int p1)] ∧ Z.Warmed39 U.vm ∧ U.heap = h0) (fun _ _ _ _ _ => True) (fun _ U o U' => ∃ v L, o = .returned v ∧ Q1 Z p1 h0 n0 v U'.heap L ∧ FrameEnd U o U' L ({ frames := 0, cells := 0, slots := 0, locals := 0 } : Room).cells ({ frames := 0, cells := 0, slots := 0, locals := 0 } : Room).slots) := by
  refine MetFree.of_bodySF (plainFor_of_name pn_NewRunMapWavesPinLaw) hisR ?_
  intro p e s m args below meth c s₁ Bd hml0 hP hK
  obtain ⟨rfl, hZ, hh⟩ := hP
  have hx := Bd.exec
  have hby := Bd.bytes
  have hlk : meth.locks = false := BodyLoose.notSynchronized Bd
  have hml : c.maxLocals = 2 := hml0
  have hown : s.vm.findClass "wavecast/estimate/NewRunMapWavesPinLaw" = some m.cls := findClass_of_methodNamed Bd.named
  have hnm := (name_of_methodNamed Bd.named Bd.method).1
  have X0 : Stand p l e ({ frames := 0, cells := 0, slots := 0, locals := 0 } : Room) s m #[(.int p1)] below meth c s₁ [] 0 0 := Stand.of_body Bd
  have e0 : s₁.heap = h0 := by rw [← hh, Bd.state]; rfl
  have N0 := Fr.nil n0
  show Goes p e below s (Q1 Z p1 h0 n0) ({ frames := 0, cells := 0, slots := 0, locals := 0 } : Room).cells ({ frames := 0, cells := 0, slots := 0, locals := 0 } : Room).slots (s₁.setTop (entryFrame m #[(.int p1)] 2))
  refine Goes.enter (g' := (mkF m 0 #[.val (.int p1), .unset] [])) (ef_rm1 m p1) ?_
  refine Goes.step (B := s₁.setTop (mkF m 1 #[.val (.int p1), .unset] [(.int p1)])) (fun _ k => XS.iloadN X0.here hx rfl (hb hby d1_0) rfl k) ?_
  refine Goes.step (B := s₁.setTop (mkF m 3 #[.val (.int p1), .unset] [(.int (2147483647 : Int32)), (.int p1)])) (X0.ldcInt hx hown (mvT hZ (hw _ (List.mem_of_getElem? (i := 5) rfl))) (g := (mkF m 1 #[.val (.int p1), .unset] [(.int p1)])) rfl (hb hby d1_1)) ?_
  refine Goes.step (B := s₁.setTop (mkF m 4 #[.val (.int p1), .unset] [(.int (p1 &&& (2147483647 : Int32)))])) (fun _ k => XS.iand X0.here hx rfl (hb hby d1_3) rfl k) ?_
  obtain ⟨pv, hpv⟩ : ∃ z, z = (p1 &&& (2147483647 : Int32)) := ⟨_, rfl⟩
  rw [← hpv]
  refine Goes.step (B := s₁.setTop (mkF m 5 #[.val (.int p1), .val (.int pv)] [])) (fun _ k => XS.istoreN X0.here hx rfl (hb hby d1_4) rfl (l' := #[.val (.int p1), .val (.int pv)]) rfl k) ?_
  refine Goes.step (B := s₁.setTop (mkF m 6 #[.val (.int p1), .val (.int pv)] [(.int pv)])) (fun _ k => XS.iloadN X0.here hx rfl (hb hby d1_5) rfl k) ?_
  by_cases hc6_0 : pv = (0 : Int32)
  · refine Goes.step (B := s₁.setTop (mkF m 9 #[.val (.int p1), .val (.int pv)] [])) (fun _ k => XS.ifNo X0.here hx rfl (hb hby d1_6) rfl ((if0 _ _).trans (teq hc6_0).2) k) ?_
    refine Goes.step (B := s₁.setTop (mkF m 10 #[.val (.int p1), .val (.int pv)] [(.int (1 : Int32))])) (fun _ k => XS.iconst X0.here hx rfl (hb hby d1_9) k) ?_
    refine Goes.step (B := s₁.setTop (mkF m 11 #[.val (.int p1), .val (.int (1 : Int32))] [])) (fun _ k => XS.istoreN X0.here hx rfl (hb hby d1_10) rfl (l' := #[.val (.int p1), .val (.int (1 : Int32))]) rfl k) ?_
    refine Goes.step (B := s₁.setTop (mkF m 12 #[.val (.int p1), .val (.int (1 : Int32))] [(.int (1 : Int32))])) (fun _ k => XS.iloadN X0.here hx rfl (hb hby d1_11) rfl k) ?_
    exact Goes.retI X0 hx e0 Bd.returns hlk (hb hby d1_12) (by decide) (by decide) (⟨_, rfl, by first | decide | exact own_pos hpv (by assumption), N0, rfl⟩)
  · refine Goes.step (B := s₁.setTop (mkF m 11 #[.val (.int p1), .val (.int pv)] [])) (fun _ k => XS.ifYes X0.here hx rfl (pc0 := 6) (pc' := 11) rfl (hb hby d1_6) rfl ((if0 _ _).trans (feq hc6_0).2) (by decide) (by decide) k) ?_
    refine Goes.step (B := s₁.setTop (mkF m 12 #[.val (.int p1), .val (.int pv)] [(.int pv)])) (fun _ k => XS.iloadN X0.here hx rfl (hb hby d1_11) rfl k) ?_
    exact Goes.retI X0 hx e0 Bd.returns hlk (hb hby d1_12) (by decide) (by decide) (⟨_, rfl, by first | decide | exact own_pos hpv (by assumption), N0, rfl⟩)
theorem d3_0 : decode jdk_30_method_1_code 0 = .ok (.aload_n 0, 1) := by decide +kernel
theorem d3_1 : decode jdk_30_method_1_code 1 = .ok (.invokespecial 1, 3) := by decide +kernel
theorem d3_4 : decode jdk_30_method_1_code 4 = .ok (.return_, 1) := by decide +kernel
theorem pn_Record : plainName "java/lang/Record" = true := by first | (simp [plainName, overriddenIn]; done) | decide +kernel
theorem ef_rm3 (m : MethodId) (x0 : Addr) : entryFrame m #[(.ref x0)] 1 = mkF m 0 #[.val (.ref x0)] [] := by first | (simp [entryFrame, mkF, argsToLocals, Value.category]; done) | rfl
def Q3 (Z : State) (a1 : Addr) (h0 : Heap) (n0 : Nat) (v : Option Value) (h : Heap) (L : List Loc) : Prop := v = none ∧ Fr n0 L ∧ h = h0
set_option maxRecDepth 65536 in
set_option maxHeartbeats 40000000 in
theorem rm3 (l : Launch) (Z : State) (a0 : Array Value) (hw : ∀ d ∈ tables_1, d.before a0 Z = true) (ws : List Jvm.Cond) (a1 : Addr) (h0 : Heap) (n0 : Nat) (O0 : Old Z n0 h0) :
    MetFree l (⟨"java/lang/Record", "<init>", "()V"⟩ : MethodName) (head1 (Jvm.Cond.code (⟨"java/lang/Record", "<init>", "()V"⟩ : MethodName) jdk_30_method_1_code 1 none :: ws) ({ frames := 1, cells := 0, slots := 0, locals := 12 } : Room)) (fun a U => a = #[(.ref a1)] ∧ Z.Warmed39 U.vm ∧ U.heap = h0) (fun _ _ _ _ _ => True) (fun _ U o U' => ∃ v L, o = .returned v ∧ Q3 Z a1 h0 n0 v U'.heap L ∧ FrameEnd U o U' L ({ frames := 1, cells := 0, slots := 0, locals := 12 } : Room).cells ({ frames := 1, cells := 0, slots := 0, locals := 12 } : Room).slots) := by
  refine MetFree.of_bodySF (plainFor_of_name pn_Record) hisR ?_
  intro p e s m args below meth c s₁ Bd hml0 hP hK
  obtain ⟨rfl, hZ, hh⟩ := hP
  have hx := Bd.exec
  have hby := Bd.bytes
  have hlk : meth.locks = false := BodyLoose.notSynchronized Bd
  have hml : c.maxLocals = 1 := hml0
  have hown : s.vm.findClass "java/lang/Record" = some m.cls := findClass_of_methodNamed Bd.named
  have hnm := (name_of_methodNamed Bd.named Bd.method).1
  have X0 : Stand p l e ({ frames := 1, cells := 0, slots := 0, locals := 12 } : Room) s m #[(.ref a1)] below meth c s₁ [] 0 0 := Stand.of_body Bd
  have e0 : s₁.heap = h0 := by rw [← hh, Bd.state]; rfl
  have N0 := Fr.nil n0
  show Goes p e below s (Q3 Z a1 h0 n0) ({ frames := 1, cells := 0, slots := 0, locals := 12 } : Room).cells ({ frames := 1, cells := 0, slots := 0, locals := 12 } : Room).slots (s₁.setTop (entryFrame m #[(.ref a1)] 1))
  refine Goes.enter (g' := (mkF m 0 #[.val (.ref a1)] [])) (ef_rm3 m a1) ?_
  refine Goes.step (B := s₁.setTop (mkF m 1 #[.val (.ref a1)] [(.ref a1)])) (fun _ k => XS.aloadN X0.here hx rfl (hb hby d3_0) rfl rfl k) ?_
  obtain ⟨T1, X1, e1, st1⟩ := initO X0 hx hZ hown (hw _ (List.mem_of_getElem? (i := 17) rfl)) (hw _ (List.mem_of_getElem? (i := 18) rfl)) (hw _ (List.mem_of_getElem? (i := 19) rfl)) e0 (g := (mkF m 1 #[.val (.ref a1)] [(.ref a1)])) rfl (by rw [hml]; rfl) rfl (hb hby d3_1) (by decide) (W := 0) (by show 2 * 0 + _ ≤ _; exact Nat.le_of_eq rfl) (by decide)
  refine Goes.step (B := T1.setTop (mkF m 4 #[.val (.ref a1)] [])) st1 ?_
  exact Goes.retV X1 hx e1 Bd.returns hlk (hb hby d3_4) (by decide) (by decide) (⟨rfl, N0, rfl⟩)
theorem d2_0 : decode prog_15_method_1_code 0 = .ok (.aload_n 0, 1) := by decide +kernel
theorem d2_1 : decode prog_15_method_1_code 1 = .ok (.invokespecial 1, 3) := by decide +kernel
theorem pd_0 : parseMethodDescriptor "()V" = some ⟨[], none⟩ := by decide +kernel
theorem d2_4 : decode prog_15_method_1_code 4 = .ok (.lload_n 1, 1) := by decide +kernel
theorem d2_5 : decode prog_15_method_1_code 5 = .ok (.lconst 0, 1) := by decide +kernel
theorem d2_6 : decode prog_15_method_1_code 6 = .ok (.lcmp, 1) := by decide +kernel
theorem d2_7 : decode prog_15_method_1_code 7 = .ok (.ifCond .le 22, 3) := by decide +kernel
theorem d2_10 : decode prog_15_method_1_code 10 = .ok (.iload_n 3, 1) := by decide +kernel
theorem d2_11 : decode prog_15_method_1_code 11 = .ok (.ifCond .le 18, 3) := by decide +kernel
theorem d2_14 : decode prog_15_method_1_code 14 = .ok (.iload 4, 2) := by decide +kernel
theorem d2_16 : decode prog_15_method_1_code 16 = .ok (.ifCond .le 13, 3) := by decide +kernel
theorem d2_19 : decode prog_15_method_1_code 19 = .ok (.iload 5, 2) := by decide +kernel
theorem d2_21 : decode prog_15_method_1_code 21 = .ok (.ifCond .le 8, 3) := by decide +kernel
theorem d2_24 : decode prog_15_method_1_code 24 = .ok (.iload 6, 2) := by decide +kernel
theorem d2_26 : decode prog_15_method_1_code 26 = .ok (.ifCond .gt 13, 3) := by decide +kernel
theorem d2_39 : decode prog_15_method_1_code 39 = .ok (.aload_n 0, 1) := by decide +kernel
theorem d2_40 : decode prog_15_method_1_code 40 = .ok (.lload_n 1, 1) := by decide +kernel
theorem d2_41 : decode prog_15_method_1_code 41 = .ok (.putfield 14, 3) := by decide +kernel
theorem d2_44 : decode prog_15_method_1_code 44 = .ok (.aload_n 0, 1) := by decide +kernel
theorem d2_45 : decode prog_15_method_1_code 45 = .ok (.iload_n 3, 1) := by decide +kernel
theorem d2_46 : decode prog_15_method_1_code 46 = .ok (.putfield 20, 3) := by decide +kernel
theorem d2_49 : decode prog_15_method_1_code 49 = .ok (.aload_n 0, 1) := by decide +kernel
theorem d2_50 : decode prog_15_method_1_code 50 = .ok (.iload 4, 2) := by decide +kernel
theorem d2_52 : decode prog_15_method_1_code 52 = .ok (.putfield 24, 3) := by decide +kernel
theorem d2_55 : decode prog_15_method_1_code 55 = .ok (.aload_n 0, 1) := by decide +kernel
theorem d2_56 : decode prog_15_method_1_code 56 = .ok (.iload 5, 2) := by decide +kernel
theorem d2_58 : decode prog_15_method_1_code 58 = .ok (.putfield 27, 3) := by decide +kernel
theorem d2_61 : decode prog_15_method_1_code 61 = .ok (.aload_n 0, 1) := by decide +kernel
theorem d2_62 : decode prog_15_method_1_code 62 = .ok (.iload 6, 2) := by decide +kernel
theorem d2_64 : decode prog_15_method_1_code 64 = .ok (.putfield 30, 3) := by decide +kernel
theorem d2_67 : decode prog_15_method_1_code 67 = .ok (.return_, 1) := by decide +kernel
theorem pn_NewRun : plainName "wavecast/estimate/NewRun" = true := by first | (simp [plainName, overriddenIn]; done) | decide +kernel
theorem ef_rm2 (m : MethodId) (x0 : Addr) (x1 : Int64) (x2 : Int32) (x3 : Int32) (x4 : Int32) (x5 : Int32) : entryFrame m #[(.ref x0), (.long x1), (.int x2), (.int x3), (.int x4), (.int x5)] 7 = mkF m 0 #[.val (.ref x0), .val (.long x1), .second, .val (.int x2), .val (.int x3), .val (.int x4), .val (.int x5)] [] := by first | (simp [entryFrame, mkF, argsToLocals, Value.category]; done) | rfl
def Q2 (Z : State) (a0r : Addr) (p1 : Int64) (p2 : Int32) (p3 : Int32) (p4 : Int32) (p5 : Int32) (h0 : Heap) (n0 : Nat) (v : Option Value) (h : Heap) (L : List Loc) : Prop := v = none ∧ Fr n0 L ∧ Keep h0 h [a0r] ∧ Exa Z h a0r "wavecast/estimate/NewRun" ∧ Fld Z h a0r "wavecast/estimate/NewRun" "inputBytes" "J" (.long p1) ∧ Fld Z h a0r "wavecast/estimate/NewRun" "maps" "I" (.int p2) ∧ Fld Z h a0r "wavecast/estimate/NewRun" "reduces" "I" (.int p3) ∧ Fld Z h a0r "wavecast/estimate/NewRun" "mapSlots" "I" (.int p4) ∧ Fld Z h a0r "wavecast/estimate/NewRun" "reduceSlots" "I" (.int p5)
set_option maxRecDepth 65536 in
set_option maxHeartbeats 40000000 in
theorem rm2 (l : Launch) (Z : State) (a0 : Array Value) (hw : ∀ d ∈ tables_1, d.before a0 Z = true) (ws : List Jvm.Cond) (a0r : Addr) (p1 : Int64) (p2 : Int32) (p3 : Int32) (p4 : Int32) (p5 : Int32) (h0 : Heap) (n0 : Nat) (O0 : Old Z n0 h0) (Er : Exa Z h0 a0r "wavecast/estimate/NewRun") (gr : n0 ≤ a0r) (Fr_inputBytes : Fld Z h0 a0r "wavecast/estimate/NewRun" "inputBytes" "J" (.long (0 : Int64))) (Fr_maps : Fld Z h0 a0r "wavecast/estimate/NewRun" "maps" "I" (.int (0 : Int32))) (Fr_reduces : Fld Z h0 a0r "wavecast/estimate/NewRun" "reduces" "I" (.int (0 : Int32))) (Fr_mapSlots : Fld Z h0 a0r "wavecast/estimate/NewRun" "mapSlots" "I" (.int (0 : Int32))) (Fr_reduceSlots : Fld Z h0 a0r "wavecast/estimate/NewRun" "reduceSlots" "I" (.int (0 : Int32))) (hq1 : (0 : Int64) < p1) (hp2 : (0 : Int32) < p2) (hp3 : (0 : Int32) < p3) (hp4 : (0 : Int32) < p4) (hp5 : (0 : Int32) < p5) :
    MetFree l (⟨"wavecast/estimate/NewRun", "<init>", "(JIIII)V"⟩ : MethodName) (head1 (Jvm.Cond.code (⟨"wavecast/estimate/NewRun", "<init>", "(JIIII)V"⟩ : MethodName) prog_15_method_1_code 7 none :: ws) ({ frames := 2, cells := 0, slots := 0, locals := 24 } : Room)) (fun a U => a = #[(.ref a0r), (.long p1), (.int p2), (.int p3), (.int p4), (.int p5)] ∧ Z.Warmed39 U.vm ∧ U.heap = h0) (fun _ _ _ _ _ => True) (fun _ U o U' => ∃ v L, o = .returned v ∧ Q2 Z a0r p1 p2 p3 p4 p5 h0 n0 v U'.heap L ∧ FrameEnd U o U' L ({ frames := 2, cells := 0, slots := 0, locals := 24 } : Room).cells ({ frames := 2, cells := 0, slots := 0, locals := 24 } : Room).slots) := by
  refine MetFree.of_bodySF (plainFor_of_name pn_NewRun) hisR ?_
  intro p e s m args below meth c s₁ Bd hml0 hP hK
  obtain ⟨rfl, hZ, hh⟩ := hP
  have hx := Bd.exec
  have hby := Bd.bytes
  have hlk : meth.locks = false := BodyLoose.notSynchronized Bd
  have hml : c.maxLocals = 7 := hml0
  have hown : s.vm.findClass "wavecast/estimate/NewRun" = some m.cls := findClass_of_methodNamed Bd.named
  have hnm := (name_of_methodNamed Bd.named Bd.method).1
  have X0 : Stand p l e ({ frames := 2, cells := 0, slots := 0, locals := 24 } : Room) s m #[(.ref a0r), (.long p1), (.int p2), (.int p3), (.int p4), (.int p5)] below meth c s₁ [] 0 0 := Stand.of_body Bd
  have e0 : s₁.heap = h0 := by rw [← hh, Bd.state]; rfl
  have N0 := Fr.nil n0
  show Goes p e below s (Q2 Z a0r p1 p2 p3 p4 p5 h0 n0) ({ frames := 2, cells := 0, slots := 0, locals := 24 } : Room).cells ({ frames := 2, cells := 0, slots := 0, locals := 24 } : Room).slots (s₁.setTop (entryFrame m #[(.ref a0r), (.long p1), (.int p2), (.int p3), (.int p4), (.int p5)] 7))
  refine Goes.enter (g' := (mkF m 0 #[.val (.ref a0r), .val (.long p1), .second, .val (.int p2), .val (.int p3), .val (.int p4), .val (.int p5)] [])) (ef_rm2 m a0r p1 p2 p3 p4 p5) ?_
  refine Goes.step (B := s₁.setTop (mkF m 1 #[.val (.ref a0r), .val (.long p1), .second, .val (.int p2), .val (.int p3), .val (.int p4), .val (.int p5)] [(.ref a0r)])) (fun _ k => XS.aloadN X0.here hx rfl (hb hby d2_0) rfl rfl k) ?_
  obtain ⟨_, _, ⟨T1, L1, k1, n1⟩, -, X1, ⟨Lc1, hQ1, l1, y1, z1⟩, st1⟩ := X0.specialBack hx (y := (⟨"java/lang/Record", "<init>", "()V"⟩ : MethodName)) rfl hown (mvT hZ (hw _ (List.mem_of_getElem? (i := 12) rfl))) (mvT hZ (hw _ (List.mem_of_getElem? (i := 13) rfl))) (mvT hZ (hw _ (List.mem_of_getElem? (i := 16) rfl))) (by decide) (backOf (W := 0) (rm3 l Z a0 hw [] a0r h0 n0 O0 ) hZ (hw _ (List.mem_of_getElem? (i := 16) rfl)) (hw _ (List.mem_of_getElem? (i := 15) rfl)) (by decide) (by decide)) (g := (mkF m 1 #[.val (.ref a0r), .val (.long p1), .second, .val (.int p2), .val (.int p3), .val (.int p4), .val (.int p5)] [(.ref a0r)])) rfl (by rw [hml]; rfl) (Steps.refl _) (a := a0r) (argsL := []) (rest := []) (lenOf pd_0 rfl) rfl (by show 2 * 0 + _ ≤ _; exact Nat.le_of_eq rfl) (hb hby d2_1) (fun _ _ => ⟨rfl, e0, (by decide : 0 + 0 ≤ _), (by decide : 0 + 0 ≤ _)⟩)
  dsimp only [Pt.U, Pt.locs, Pt.cells, Pt.slots] at X1 l1 y1 z1 st1 hQ1
  subst l1 y1 z1
  obtain ⟨rfl, Nq1, eh1⟩ := hQ1
  have N1 := Fr.app N0 Nq1
  refine Goes.via (B := T1.setTop (mkF m 4 #[.val (.ref a0r), .val (.long p1), .second, .val (.int p2), .val (.int p3), .val (.int p4), .val (.int p5)] [])) st1 ?_
  refine Goes.step (B := T1.setTop (mkF m 5 #[.val (.ref a0r), .val (.long p1), .second, .val (.int p2), .val (.int p3), .val (.int p4), .val (.int p5)] [(.long p1)])) (fun _ k => XS.lloadN X1.here hx rfl (hb hby d2_4) rfl k) ?_
  refine Goes.step (B := T1.setTop (mkF m 6 #[.val (.ref a0r), .val (.long p1), .second, .val (.int p2), .val (.int p3), .val (.int p4), .val (.int p5)] [(.long (0 : Int64)), (.long p1)])) (fun _ k => XS.lconst X1.here hx rfl (hb hby d2_5) k) ?_
  refine Goes.step (B := T1.setTop (mkF m 7 #[.val (.ref a0r), .val (.long p1), .second, .val (.int p2), .val (.int p3), .val (.int p4), .val (.int p5)] [(.int (lcmpW p1 (0 : Int64)))])) (fun _ k => XS.lcmp X1.here hx rfl (hb hby d2_6) rfl k) ?_
  refine Goes.step (B := T1.setTop (mkF m 10 #[.val (.ref a0r), .val (.long p1), .second, .val (.int p2), .val (.int p3), .val (.int p4), .val (.int p5)] [])) (fun _ k => XS.ifNo X1.here hx rfl (hb hby d2_7) rfl ((if0 _ _).trans (tlt ((lw_gt _ _).mpr hq1)).2.2.2) k) ?_
  refine Goes.step (B := T1.setTop (mkF m 11 #[.val (.ref a0r), .val (.long p1), .second, .val (.int p2), .val (.int p3), .val (.int p4), .val (.int p5)] [(.int p2)])) (fun _ k => XS.iloadN X1.here hx rfl (hb hby d2_10) rfl k) ?_
  refine Goes.step (B := T1.setTop (mkF m 14 #[.val (.ref a0r), .val (.long p1), .second, .val (.int p2), .val (.int p3), .val (.int p4), .val (.int p5)] [])) (fun _ k => XS.ifNo X1.here hx rfl (hb hby d2_11) rfl ((if0 _ _).trans (tlt hp2).2.2.2) k) ?_
  refine Goes.step (B := T1.setTop (mkF m 16 #[.val (.ref a0r), .val (.long p1), .second, .val (.int p2), .val (.int p3), .val (.int p4), .val (.int p5)] [(.int p3)])) (fun _ k => XS.iload X1.here hx rfl (hb hby d2_14) rfl k) ?_
  refine Goes.step (B := T1.setTop (mkF m 19 #[.val (.ref a0r), .val (.long p1), .second, .val (.int p2), .val (.int p3), .val (.int p4), .val (.int p5)] [])) (fun _ k => XS.ifNo X1.here hx rfl (hb hby d2_16) rfl ((if0 _ _).trans (tlt hp3).2.2.2) k) ?_
  refine Goes.step (B := T1.setTop (mkF m 21 #[.val (.ref a0r), .val (.long p1), .second, .val (.int p2), .val (.int p3), .val (.int p4), .val (.int p5)] [(.int p4)])) (fun _ k => XS.iload X1.here hx rfl (hb hby d2_19) rfl k) ?_
  refine Goes.step (B := T1.setTop (mkF m 24 #[.val (.ref a0r), .val (.long p1), .second, .val (.int p2), .val (.int p3), .val (.int p4), .val (.int p5)] [])) (fun _ k => XS.ifNo X1.here hx rfl (hb hby d2_21) rfl ((if0 _ _).trans (tlt hp4).2.2.2) k) ?_
  refine Goes.step (B := T1.setTop (mkF m 26 #[.val (.ref a0r), .val (.long p1), .second, .val (.int p2), .val (.int p3), .val (.int p4), .val (.int p5)] [(.int p5)])) (fun _ k => XS.iload X1.here hx rfl (hb hby d2_24) rfl k) ?_
  refine Goes.step (B := T1.setTop (mkF m 39 #[.val (.ref a0r), .val (.long p1), .second, .val (.int p2), .val (.int p3), .val (.int p4), .val (.int p5)] [])) (fun _ k => XS.ifYes X1.here hx rfl (pc0 := 26) (pc' := 39) rfl (hb hby d2_26) rfl ((if0 _ _).trans (tlt hp5).2.2.1) (by decide) (by decide) k) ?_
  refine Goes.step (B := T1.setTop (mkF m 40 #[.val (.ref a0r), .val (.long p1), .second, .val (.int p2), .val (.int p3), .val (.int p4), .val (.int p5)] [(.ref a0r)])) (fun _ k => XS.aloadN X1.here hx rfl (hb hby d2_39) rfl rfl k) ?_
  refine Goes.step (B := T1.setTop (mkF m 41 #[.val (.ref a0r), .val (.long p1), .second, .val (.int p2), .val (.int p3), .val (.int p4), .val (.int p5)] [(.long p1), (.ref a0r)])) (fun _ k => XS.lloadN X1.here hx rfl (hb hby d2_40) rfl k) ?_
  obtain ⟨T2, h2, X2, e2, W2, st2⟩ := putF X1 hx hZ hown (host := "") (Or.inl (hw _ (List.mem_of_getElem? (i := 20) rfl))) Via.refl eh1 Fr_inputBytes Er (Or.inr ⟨(hw _ (List.mem_of_getElem? (i := 21) rfl)), rfl, hnm⟩) (hw _ (List.mem_of_getElem? (i := 7) rfl)) (ty := .long) (by decide) rfl rfl (g := (mkF m 41 #[.val (.ref a0r), .val (.long p1), .second, .val (.int p2), .val (.int p3), .val (.int p4), .val (.int p5)] [(.long p1), (.ref a0r)])) rfl rfl (hb hby d2_41)
  have Fw2 := Fr_inputBytes.same W2
  have N2 := Fr.snoc X2 N1 gr
  have O_2 := O0.wr W2 gr
  have K_2 := (Keep.refl h0 [a0r]).wr W2 (Or.inl (List.mem_of_getElem? (i := 0) rfl))
  refine Goes.step (B := T2.setTop (mkF m 44 #[.val (.ref a0r), .val (.long p1), .second, .val (.int p2), .val (.int p3), .val (.int p4), .val (.int p5)] [])) st2 ?_
  refine Goes.step (B := T2.setTop (mkF m 45 #[.val (.ref a0r), .val (.long p1), .second, .val (.int p2), .val (.int p3), .val (.int p4), .val (.int p5)] [(.ref a0r)])) (fun _ k => XS.aloadN X2.here hx rfl (hb hby d2_44) rfl rfl k) ?_
  refine Goes.step (B := T2.setTop (mkF m 46 #[.val (.ref a0r), .val (.long p1), .second, .val (.int p2), .val (.int p3), .val (.int p4), .val (.int p5)] [(.int p2), (.ref a0r)])) (fun _ k => XS.iloadN X2.here hx rfl (hb hby d2_45) rfl k) ?_
  have f3 := (Er.wr W2)
  have f4 := (Fr_maps.other W2 (Or.inr (slot_ne (Or.inr (hw _ (List.mem_of_getElem? (i := 23) rfl))) (Or.inr (hw _ (List.mem_of_getElem? (i := 21) rfl))) (by decide) (t := .int) (t' := .long) (by decide) (by decide))))
  obtain ⟨T5, h5, X5, e5, W5, st5⟩ := putF X2 hx hZ hown (host := "") (Or.inl (hw _ (List.mem_of_getElem? (i := 22) rfl))) Via.refl e2 f4 f3 (Or.inr ⟨(hw _ (List.mem_of_getElem? (i := 23) rfl)), rfl, hnm⟩) (hw _ (List.mem_of_getElem? (i := 7) rfl)) (ty := .int) (by decide) rfl rfl (g := (mkF m 46 #[.val (.ref a0r), .val (.long p1), .second, .val (.int p2), .val (.int p3), .val (.int p4), .val (.int p5)] [(.int p2), (.ref a0r)])) rfl rfl (hb hby d2_46)
  have Fw5 := f4.same W5
  have N5 := Fr.snoc X5 N2 gr
  have O_5 := O_2.wr W5 gr
  have K_5 := K_2.wr W5 (Or.inl (List.mem_of_getElem? (i := 0) rfl))
  refine Goes.step (B := T5.setTop (mkF m 49 #[.val (.ref a0r), .val (.long p1), .second, .val (.int p2), .val (.int p3), .val (.int p4), .val (.int p5)] [])) st5 ?_
  refine Goes.step (B := T5.setTop (mkF m 50 #[.val (.ref a0r), .val (.long p1), .second, .val (.int p2), .val (.int p3), .val (.int p4), .val (.int p5)] [(.ref a0r)])) (fun _ k => XS.aloadN X5.here hx rfl (hb hby d2_49) rfl rfl k) ?_
  refine Goes.step (B := T5.setTop (mkF m 52 #[.val (.ref a0r), .val (.long p1), .second, .val (.int p2), .val (.int p3), .val (.int p4), .val (.int p5)] [(.int p3), (.ref a0r)])) (fun _ k => XS.iload X5.here hx rfl (hb hby d2_50) rfl k) ?_
  have f6 := (f3.wr W5)
  have f7 := ((Fr_reduces.other W2 (Or.inr (slot_ne (Or.inr (hw _ (List.mem_of_getElem? (i := 25) rfl))) (Or.inr (hw _ (List.mem_of_getElem? (i := 21) rfl))) (by decide) (t := .int) (t' := .long) (by decide) (by decide)))).other W5 (Or.inr (slot_ne (Or.inr (hw _ (List.mem_of_getElem? (i := 25) rfl))) (Or.inr (hw _ (List.mem_of_getElem? (i := 23) rfl))) (by decide) (t := .int) (t' := .int) (by decide) (by decide))))
  obtain ⟨T8, h8, X8, e8, W8, st8⟩ := putF X5 hx hZ hown (host := "") (Or.inl (hw _ (List.mem_of_getElem? (i := 24) rfl))) Via.refl e5 f7 f6 (Or.inr ⟨(hw _ (List.mem_of_getElem? (i := 25) rfl)), rfl, hnm⟩) (hw _ (List.mem_of_getElem? (i := 7) rfl)) (ty := .int) (by decide) rfl rfl (g := (mkF m 52 #[.val (.ref a0r), .val (.long p1), .second, .val (.int p2), .val (.int p3), .val (.int p4), .val (.int p5)] [(.int p3), (.ref a0r)])) rfl rfl (hb hby d2_52)
  have Fw8 := f7.same W8
  have N8 := Fr.snoc X8 N5 gr
  have O_8 := O_5.wr W8 gr
  have K_8 := K_5.wr W8 (Or.inl (List.mem_of_getElem? (i := 0) rfl))
  refine Goes.step (B := T8.setTop (mkF m 55 #[.val (.ref a0r), .val (.long p1), .second, .val (.int p2), .val (.int p3), .val (.int p4), .val (.int p5)] [])) st8 ?_
  refine Goes.step (B := T8.setTop (mkF m 56 #[.val (.ref a0r), .val (.long p1), .second, .val (.int p2), .val (.int p3), .val (.int p4), .val (.int p5)] [(.ref a0r)])) (fun _ k => XS.aloadN X8.here hx rfl (hb hby d2_55) rfl rfl k) ?_
  refine Goes.step (B := T8.setTop (mkF m 58 #[.val (.ref a0r), .val (.long p1), .second, .val (.int p2), .val (.int p3), .val (.int p4), .val (.int p5)] [(.int p4), (.ref a0r)])) (fun _ k => XS.iload X8.here hx rfl (hb hby d2_56) rfl k) ?_
  have f9 := (f6.wr W8)
  have f10 := (((Fr_mapSlots.other W2 (Or.inr (slot_ne (Or.inr (hw _ (List.mem_of_getElem? (i := 27) rfl))) (Or.inr (hw _ (List.mem_of_getElem? (i := 21) rfl))) (by decide) (t := .int) (t' := .long) (by decide) (by decide)))).other W5 (Or.inr (slot_ne (Or.inr (hw _ (List.mem_of_getElem? (i := 27) rfl))) (Or.inr (hw _ (List.mem_of_getElem? (i := 23) rfl))) (by decide) (t := .int) (t' := .int) (by decide) (by decide)))).other W8 (Or.inr (slot_ne (Or.inr (hw _ (List.mem_of_getElem? (i := 27) rfl))) (Or.inr (hw _ (List.mem_of_getElem? (i := 25) rfl))) (by decide) (t := .int) (t' := .int) (by decide) (by decide))))
  obtain ⟨T11, h11, X11, e11, W11, st11⟩ := putF X8 hx hZ hown (host := "") (Or.inl (hw _ (List.mem_of_getElem? (i := 26) rfl))) Via.refl e8 f10 f9 (Or.inr ⟨(hw _ (List.mem_of_getElem? (i := 27) rfl)), rfl, hnm⟩) (hw _ (List.mem_of_getElem? (i := 7) rfl)) (ty := .int) (by decide) rfl rfl (g := (mkF m 58 #[.val (.ref a0r), .val (.long p1), .second, .val (.int p2), .val (.int p3), .val (.int p4), .val (.int p5)] [(.int p4), (.ref a0r)])) rfl rfl (hb hby d2_58)
  have Fw11 := f10.same W11
  have N11 := Fr.snoc X11 N8 gr
  have O_11 := O_8.wr W11 gr
  have K_11 := K_8.wr W11 (Or.inl (List.mem_of_getElem? (i := 0) rfl))
  refine Goes.step (B := T11.setTop (mkF m 61 #[.val (.ref a0r), .val (.long p1), .second, .val (.int p2), .val (.int p3), .val (.int p4), .val (.int p5)] [])) st11 ?_
  refine Goes.step (B := T11.setTop (mkF m 62 #[.val (.ref a0r), .val (.long p1), .second, .val (.int p2), .val (.int p3), .val (.int p4), .val (.int p5)] [(.ref a0r)])) (fun _ k => XS.aloadN X11.here hx rfl (hb hby d2_61) rfl rfl k) ?_
  refine Goes.step (B := T11.setTop (mkF m 64 #[.val (.ref a0r), .val (.long p1), .second, .val (.int p2), .val (.int p3), .val (.int p4), .val (.int p5)] [(.int p5), (.ref a0r)])) (fun _ k => XS.iload X11.here hx rfl (hb hby d2_62) rfl k) ?_
  have f12 := (f9.wr W11)
  have f13 := ((((Fr_reduceSlots.other W2 (Or.inr (slot_ne (Or.inr (hw _ (List.mem_of_getElem? (i := 29) rfl))) (Or.inr (hw _ (List.mem_of_getElem? (i := 21) rfl))) (by decide) (t := .int) (t' := .long) (by decide) (by decide)))).other W5 (Or.inr (slot_ne (Or.inr (hw _ (List.mem_of_getElem? (i := 29) rfl))) (Or.inr (hw _ (List.mem_of_getElem? (i := 23) rfl))) (by decide) (t := .int) (t' := .int) (by decide) (by decide)))).other W8 (Or.inr (slot_ne (Or.inr (hw _ (List.mem_of_getElem? (i := 29) rfl))) (Or.inr (hw _ (List.mem_of_getElem? (i := 25) rfl))) (by decide) (t := .int) (t' := .int) (by decide) (by decide)))).other W11 (Or.inr (slot_ne (Or.inr (hw _ (List.mem_of_getElem? (i := 29) rfl))) (Or.inr (hw _ (List.mem_of_getElem? (i := 27) rfl))) (by decide) (t := .int) (t' := .int) (by decide) (by decide))))
  obtain ⟨T14, h14, X14, e14, W14, st14⟩ := putF X11 hx hZ hown (host := "") (Or.inl (hw _ (List.mem_of_getElem? (i := 28) rfl))) Via.refl e11 f13 f12 (Or.inr ⟨(hw _ (List.mem_of_getElem? (i := 29) rfl)), rfl, hnm⟩) (hw _ (List.mem_of_getElem? (i := 7) rfl)) (ty := .int) (by decide) rfl rfl (g := (mkF m 64 #[.val (.ref a0r), .val (.long p1), .second, .val (.int p2), .val (.int p3), .val (.int p4), .val (.int p5)] [(.int p5), (.ref a0r)])) rfl rfl (hb hby d2_64)
  have Fw14 := f13.same W14
  have N14 := Fr.snoc X14 N11 gr
  have O_14 := O_11.wr W14 gr
  have K_14 := K_11.wr W14 (Or.inl (List.mem_of_getElem? (i := 0) rfl))
  refine Goes.step (B := T14.setTop (mkF m 67 #[.val (.ref a0r), .val (.long p1), .second, .val (.int p2), .val (.int p3), .val (.int p4), .val (.int p5)] [])) st14 ?_
  have f15 := (f12.wr W14)
  have f16 := ((((Fw2.other W5 (Or.inr (slot_ne (Or.inr (hw _ (List.mem_of_getElem? (i := 21) rfl))) (Or.inr (hw _ (List.mem_of_getElem? (i := 23) rfl))) (by decide) (t := .long) (t' := .int) (by decide) (by decide)))).other W8 (Or.inr (slot_ne (Or.inr (hw _ (List.mem_of_getElem? (i := 21) rfl))) (Or.inr (hw _ (List.mem_of_getElem? (i := 25) rfl))) (by decide) (t := .long) (t' := .int) (by decide) (by decide)))).other W11 (Or.inr (slot_ne (Or.inr (hw _ (List.mem_of_getElem? (i := 21) rfl))) (Or.inr (hw _ (List.mem_of_getElem? (i := 27) rfl))) (by decide) (t := .long) (t' := .int) (by decide) (by decide)))).other W14 (Or.inr (slot_ne (Or.inr (hw _ (List.mem_of_getElem? (i := 21) rfl))) (Or.inr (hw _ (List.mem_of_getElem? (i := 29) rfl))) (by decide) (t := .long) (t' := .int) (by decide) (by decide))))
  have f17 := (((Fw5.other W8 (Or.inr (slot_ne (Or.inr (hw _ (List.mem_of_getElem? (i := 23) rfl))) (Or.inr (hw _ (List.mem_of_getElem? (i := 25) rfl))) (by decide) (t := .int) (t' := .int) (by decide) (by decide)))).other W11 (Or.inr (slot_ne (Or.inr (hw _ (List.mem_of_getElem? (i := 23) rfl))) (Or.inr (hw _ (List.mem_of_getElem? (i := 27) rfl))) (by decide) (t := .int) (t' := .int) (by decide) (by decide)))).other W14 (Or.inr (slot_ne (Or.inr (hw _ (List.mem_of_getElem? (i := 23) rfl))) (Or.inr (hw _ (List.mem_of_getElem? (i := 29) rfl))) (by decide) (t := .int) (t' := .int) (by decide) (by decide))))
  have f18 := ((Fw8.other W11 (Or.inr (slot_ne (Or.inr (hw _ (List.mem_of_getElem? (i := 25) rfl))) (Or.inr (hw _ (List.mem_of_getElem? (i := 27) rfl))) (by decide) (t := .int) (t' := .int) (by decide) (by decide)))).other W14 (Or.inr (slot_ne (Or.inr (hw _ (List.mem_of_getElem? (i := 25) rfl))) (Or.inr (hw _ (List.mem_of_getElem? (i := 29) rfl))) (by decide) (t := .int) (t' := .int) (by decide) (by decide))))
  have f19 := (Fw11.other W14 (Or.inr (slot_ne (Or.inr (hw _ (List.mem_of_getElem? (i := 27) rfl))) (Or.inr (hw _ (List.mem_of_getElem? (i := 29) rfl))) (by decide) (t := .int) (t' := .int) (by decide) (by decide))))
  exact Goes.retV X14 hx e14 Bd.returns hlk (hb hby d2_67) (by decide) (by decide) (⟨rfl, N14, K_14, f15, f16, f17, f18, f19, Fw14⟩)
theorem d5_0 : decode prog_15_method_2_code 0 = .ok (.aload_n 0, 1) := by decide +kernel
theorem d5_1 : decode prog_15_method_2_code 1 = .ok (.getfield 20, 3) := by decide +kernel
theorem d5_4 : decode prog_15_method_2_code 4 = .ok (.i2l, 1) := by decide +kernel
theorem d5_5 : decode prog_15_method_2_code 5 = .ok (.lconst 1, 1) := by decide +kernel
theorem d5_6 : decode prog_15_method_2_code 6 = .ok (.lsub, 1) := by decide +kernel
theorem d5_7 : decode prog_15_method_2_code 7 = .ok (.aload_n 0, 1) := by decide +kernel
theorem d5_8 : decode prog_15_method_2_code 8 = .ok (.getfield 27, 3) := by decide +kernel
theorem d5_11 : decode prog_15_method_2_code 11 = .ok (.i2l, 1) := by decide +kernel
theorem d5_12 : decode prog_15_method_2_code 12 = .ok (.ldiv, 1) := by decide +kernel
theorem d5_13 : decode prog_15_method_2_code 13 = .ok (.lconst 1, 1) := by decide +kernel
theorem d5_14 : decode prog_15_method_2_code 14 = .ok (.ladd, 1) := by decide +kernel
theorem d5_15 : decode prog_15_method_2_code 15 = .ok (.lreturn, 1) := by decide +kernel
theorem ef_rm5 (m : MethodId) (x0 : Addr) : entryFrame m #[(.ref x0)] 1 = mkF m 0 #[.val (.ref x0)] [] := by first | (simp [entryFrame, mkF, argsToLocals, Value.category]; done) | rfl
def Q5 (Z : State) (a1 : Addr) (mm : Int32) (ss : Int32) (h0 : Heap) (n0 : Nat) (v : Option Value) (h : Heap) (L : List Loc) : Prop := v = some (.long ((((mm.toInt64) - (1 : Int64)) / (ss.toInt64)) + (1 : Int64))) ∧ Fr n0 L ∧ h = h0
set_option maxRecDepth 65536 in
set_option maxHeartbeats 40000000 in
theorem rm5 (l : Launch) (Z : State) (a0 : Array Value) (hw : ∀ d ∈ tables_1, d.before a0 Z = true) (ws : List Jvm.Cond) (a1 : Addr) (mm : Int32) (ss : Int32) (h0 : Heap) (n0 : Nat) (O0 : Old Z n0 h0) (hs : 1 ≤ ss.toInt) (Fm : Fld Z h0 a1 "wavecast/estimate/NewRun" "maps" "I" (.int mm)) (Fs : Fld Z h0 a1 "wavecast/estimate/NewRun" "mapSlots" "I" (.int ss)) :
    MetFree l (⟨"wavecast/estimate/NewRun", "mapWaves", "()J"⟩ : MethodName) (head1 (Jvm.Cond.code (⟨"wavecast/estimate/NewRun", "mapWaves", "()J"⟩ : MethodName) prog_15_method_2_code 1 (some .long) :: ws) ({ frames := 0, cells := 0, slots := 0, locals := 0 } : Room)) (fun a U => a = #[(.ref a1)] ∧ Z.Warmed39 U.vm ∧ U.heap = h0) (fun _ _ _ _ _ => True) (fun _ U o U' => ∃ v L, o = .returned v ∧ Q5 Z a1 mm ss h0 n0 v U'.heap L ∧ FrameEnd U o U' L ({ frames := 0, cells := 0, slots := 0, locals := 0 } : Room).cells ({ frames := 0, cells := 0, slots := 0, locals := 0 } : Room).slots) := by
  refine MetFree.of_bodySF (plainFor_of_name pn_NewRun) hisR ?_
  intro p e s m args below meth c s₁ Bd hml0 hP hK
  obtain ⟨rfl, hZ, hh⟩ := hP
  have hx := Bd.exec
  have hby := Bd.bytes
  have hlk : meth.locks = false := BodyLoose.notSynchronized Bd
  have hml : c.maxLocals = 1 := hml0
  have hown : s.vm.findClass "wavecast/estimate/NewRun" = some m.cls := findClass_of_methodNamed Bd.named
  have hnm := (name_of_methodNamed Bd.named Bd.method).1
  have X0 : Stand p l e ({ frames := 0, cells := 0, slots := 0, locals := 0 } : Room) s m #[(.ref a1)] below meth c s₁ [] 0 0 := Stand.of_body Bd
  have e0 : s₁.heap = h0 := by rw [← hh, Bd.state]; rfl
  have N0 := Fr.nil n0
  show Goes p e below s (Q5 Z a1 mm ss h0 n0) ({ frames := 0, cells := 0, slots := 0, locals := 0 } : Room).cells ({ frames := 0, cells := 0, slots := 0, locals := 0 } : Room).slots (s₁.setTop (entryFrame m #[(.ref a1)] 1))
  refine Goes.enter (g' := (mkF m 0 #[.val (.ref a1)] [])) (ef_rm5 m a1) ?_
  refine Goes.step (B := s₁.setTop (mkF m 1 #[.val (.ref a1)] [(.ref a1)])) (fun _ k => XS.aloadN X0.here hx rfl (hb hby d5_0) rfl rfl k) ?_
  obtain ⟨T1, X1, e1, st1⟩ := getF X0 hx hZ hown (host := "") (Or.inl (hw _ (List.mem_of_getElem? (i := 22) rfl))) Via.refl e0 Fm (g := (mkF m 1 #[.val (.ref a1)] [(.ref a1)])) rfl rfl (hb hby d5_1)
  refine Goes.step (B := T1.setTop (mkF m 4 #[.val (.ref a1)] [(.int mm)])) st1 ?_
  refine Goes.step (B := T1.setTop (mkF m 5 #[.val (.ref a1)] [(.long (mm.toInt64))])) (fun _ k => XS.i2l X1.here hx rfl (hb hby d5_4) rfl k) ?_
  refine Goes.step (B := T1.setTop (mkF m 6 #[.val (.ref a1)] [(.long (1 : Int64)), (.long (mm.toInt64))])) (fun _ k => XS.lconst X1.here hx rfl (hb hby d5_5) k) ?_
  refine Goes.step (B := T1.setTop (mkF m 7 #[.val (.ref a1)] [(.long ((mm.toInt64) - (1 : Int64)))])) (fun _ k => XS.lsub X1.here hx rfl (hb hby d5_6) rfl k) ?_
  refine Goes.step (B := T1.setTop (mkF m 8 #[.val (.ref a1)] [(.ref a1), (.long ((mm.toInt64) - (1 : Int64)))])) (fun _ k => XS.aloadN X1.here hx rfl (hb hby d5_7) rfl rfl k) ?_
  obtain ⟨T2, X2, e2, st2⟩ := getF X1 hx hZ hown (host := "") (Or.inl (hw _ (List.mem_of_getElem? (i := 26) rfl))) Via.refl e1 Fs (g := (mkF m 8 #[.val (.ref a1)] [(.ref a1), (.long ((mm.toInt64) - (1 : Int64)))])) rfl rfl (hb hby d5_8)
  refine Goes.step (B := T2.setTop (mkF m 11 #[.val (.ref a1)] [(.int ss), (.long ((mm.toInt64) - (1 : Int64)))])) st2 ?_
  refine Goes.step (B := T2.setTop (mkF m 12 #[.val (.ref a1)] [(.long (ss.toInt64)), (.long ((mm.toInt64) - (1 : Int64)))])) (fun _ k => XS.i2l X2.here hx rfl (hb hby d5_11) rfl k) ?_
  refine Goes.step (B := T2.setTop (mkF m 13 #[.val (.ref a1)] [(.long (((mm.toInt64) - (1 : Int64)) / (ss.toInt64)))])) (fun _ k => XS.ldiv X2.here hx rfl (hb hby d5_12) rfl (own_nz hs) k) ?_
  refine Goes.step (B := T2.setTop (mkF m 14 #[.val (.ref a1)] [(.long (1 : Int64)), (.long (((mm.toInt64) - (1 : Int64)) / (ss.toInt64)))])) (fun _ k => XS.lconst X2.here hx rfl (hb hby d5_13) k) ?_
  refine Goes.step (B := T2.setTop (mkF m 15 #[.val (.ref a1)] [(.long ((((mm.toInt64) - (1 : Int64)) / (ss.toInt64)) + (1 : Int64)))])) (fun _ k => XS.ladd X2.here hx rfl (hb hby d5_14) rfl k) ?_
  exact Goes.retJ X2 hx e2 Bd.returns hlk (hb hby d5_15) (by decide) (by decide) (⟨rfl, N0, rfl⟩)
theorem pd_1 : parseMethodDescriptor "(I)I" = some ⟨[.int], some .int⟩ := by decide +kernel
theorem pd_2 : parseMethodDescriptor "(JIIII)V" = some ⟨[.long, .int, .int, .int, .int], none⟩ := by decide +kernel
theorem pd_3 : parseMethodDescriptor "()J" = some ⟨[], some .long⟩ := by decide +kernel
theorem ef_rm0 (m : MethodId) (x0 : Int64) (x1 : Int32) (x2 : Int32) (x3 : Int32) (x4 : Int32) : entryFrame m #[(.long x0), (.int x1), (.int x2), (.int x3), (.int x4)] maxLocals = mkF m 0 #[.val (.long x0), .second, .val (.int x1), .val (.int x2), .val (.int x3), .val (.int x4), .unset, .unset, .unset, .unset, .unset, .unset, .unset, .unset, .unset, .unset, .unset, .unset, .unset, .unset, .unset] [] := by first | (simp [entryFrame, mkF, argsToLocals, Value.category, maxLocals]; done) | rfl
def Q0 (Z : State) (i0 : Int64) (i1 : Int32) (i2 : Int32) (i3 : Int32) (i4 : Int32) (h0 : Heap) (n0 : Nat) (v : Option Value) (h : Heap) (L : List Loc) : Prop := v = some (.int 1) ∧ Fr n0 L
set_option maxRecDepth 65536 in
set_option maxHeartbeats 40000000 in
theorem rm0 (l : Launch) (Z : State) (a0 : Array Value) (hw : ∀ d ∈ tables_1, d.before a0 Z = true) (ws : List Jvm.Cond) (i0 : Int64) (i1 : Int32) (i2 : Int32) (i3 : Int32) (i4 : Int32) (h0 : Heap) (n0 : Nat) (O0 : Old Z n0 h0) :
    MetFree l x (head1 (Jvm.Cond.code x code maxLocals ret :: ws) room_1) (fun a U => a = #[(.long i0), (.int i1), (.int i2), (.int i3), (.int i4)] ∧ Z.Warmed39 U.vm ∧ U.heap = h0) (fun _ _ _ _ _ => True) (fun _ U o U' => ∃ v L, o = .returned v ∧ Q0 Z i0 i1 i2 i3 i4 h0 n0 v U'.heap L ∧ FrameEnd U o U' L room_1.cells room_1.slots) := by
  refine MetFree.of_bodySF (plainFor_of_name pn_NewRunMapWavesPinLaw) hisR ?_
  intro p e s m args below meth c s₁ Bd hml0 hP hK
  obtain ⟨rfl, hZ, hh⟩ := hP
  have hx := Bd.exec
  have hby := Bd.bytes
  have hlk : meth.locks = false := BodyLoose.notSynchronized Bd
  have hml : c.maxLocals = 21 := hml0
  have hown : s.vm.findClass "wavecast/estimate/NewRunMapWavesPinLaw" = some m.cls := findClass_of_methodNamed Bd.named
  have hnm := (name_of_methodNamed Bd.named Bd.method).1
  have X0 : Stand p l e room_1 s m #[(.long i0), (.int i1), (.int i2), (.int i3), (.int i4)] below meth c s₁ [] 0 0 := Stand.of_body Bd
  have e0 : s₁.heap = h0 := by rw [← hh, Bd.state]; rfl
  have N0 := Fr.nil n0
  show Goes p e below s (Q0 Z i0 i1 i2 i3 i4 h0 n0) room_1.cells room_1.slots (s₁.setTop (entryFrame m #[(.long i0), (.int i1), (.int i2), (.int i3), (.int i4)] maxLocals))
  refine Goes.enter (g' := (mkF m 0 #[.val (.long i0), .second, .val (.int i1), .val (.int i2), .val (.int i3), .val (.int i4), .unset, .unset, .unset, .unset, .unset, .unset, .unset, .unset, .unset, .unset, .unset, .unset, .unset, .unset, .unset] [])) (ef_rm0 m i0 i1 i2 i3 i4) ?_
  refine Goes.step (B := s₁.setTop (mkF m 1 #[.val (.long i0), .second, .val (.int i1), .val (.int i2), .val (.int i3), .val (.int i4), .unset, .unset, .unset, .unset, .unset, .unset, .unset, .unset, .unset, .unset, .unset, .unset, .unset, .unset, .unset] [(.long i0)])) (fun _ k => XS.lloadN X0.here hx rfl (hb hby at_0) rfl k) ?_
  refine Goes.step (B := s₁.setTop (mkF m 4 #[.val (.long i0), .second, .val (.int i1), .val (.int i2), .val (.int i3), .val (.int i4), .unset, .unset, .unset, .unset, .unset, .unset, .unset, .unset, .unset, .unset, .unset, .unset, .unset, .unset, .unset] [(.long (9223372036854775807 : Int64)), (.long i0)])) (X0.ldc2Long hx hown (mvT hZ (hw _ (List.mem_of_getElem? (i := 0) rfl))) (g := (mkF m 1 #[.val (.long i0), .second, .val (.int i1), .val (.int i2), .val (.int i3), .val (.int i4), .unset, .unset, .unset, .unset, .unset, .unset, .unset, .unset, .unset, .unset, .unset, .unset, .unset, .unset, .unset] [(.long i0)])) rfl (hb hby at_1)) ?_
  refine Goes.step (B := s₁.setTop (mkF m 5 #[.val (.long i0), .second, .val (.int i1), .val (.int i2), .val (.int i3), .val (.int i4), .unset, .unset, .unset, .unset, .unset, .unset, .unset, .unset, .unset, .unset, .unset, .unset, .unset, .unset, .unset] [(.long (i0 &&& (9223372036854775807 : Int64)))])) (fun _ k => XS.land X0.here hx rfl (hb hby at_4) rfl k) ?_
  obtain ⟨inb, hinb⟩ : ∃ z, z = (i0 &&& (9223372036854775807 : Int64)) := ⟨_, rfl⟩
  rw [← hinb]
  refine Goes.step (B := s₁.setTop (mkF m 7 #[.val (.long i0), .second, .val (.int i1), .val (.int i2), .val (.int i3), .val (.int i4), .val (.long inb), .second, .unset, .unset, .unset, .unset, .unset, .unset, .unset, .unset, .unset, .unset, .unset, .unset, .unset] [])) (fun _ k => XS.lstore X0.here hx rfl (hb hby at_5) rfl (l' := #[.val (.long i0), .second, .val (.int i1), .val (.int i2), .val (.int i3), .val (.int i4), .val (.long inb), .second, .unset, .unset, .unset, .unset, .unset, .unset, .unset, .unset, .unset, .unset, .unset, .unset, .unset]) rfl k) ?_
  refine Goes.step (B := s₁.setTop (mkF m 9 #[.val (.long i0), .second, .val (.int i1), .val (.int i2), .val (.int i3), .val (.int i4), .val (.long inb), .second, .unset, .unset, .unset, .unset, .unset, .unset, .unset, .unset, .unset, .unset, .unset, .unset, .unset] [(.long inb)])) (fun _ k => XS.lload X0.here hx rfl (hb hby at_7) rfl k) ?_
  refine Goes.step (B := s₁.setTop (mkF m 10 #[.val (.long i0), .second, .val (.int i1), .val (.int i2), .val (.int i3), .val (.int i4), .val (.long inb), .second, .unset, .unset, .unset, .unset, .unset, .unset, .unset, .unset, .unset, .unset, .unset, .unset, .unset] [(.long (0 : Int64)), (.long inb)])) (fun _ k => XS.lconst X0.here hx rfl (hb hby at_9) k) ?_
  refine Goes.step (B := s₁.setTop (mkF m 11 #[.val (.long i0), .second, .val (.int i1), .val (.int i2), .val (.int i3), .val (.int i4), .val (.long inb), .second, .unset, .unset, .unset, .unset, .unset, .unset, .unset, .unset, .unset, .unset, .unset, .unset, .unset] [(.int (lcmpW inb (0 : Int64)))])) (fun _ k => XS.lcmp X0.here hx rfl (hb hby at_10) rfl k) ?_
  by_cases hc11_0 : inb = (0 : Int64)
  · refine Goes.step (B := s₁.setTop (mkF m 14 #[.val (.long i0), .second, .val (.int i1), .val (.int i2), .val (.int i3), .val (.int i4), .val (.long inb), .second, .unset, .unset, .unset, .unset, .unset, .unset, .unset, .unset, .unset, .unset, .unset, .unset, .unset] [])) (fun _ k => XS.ifNo X0.here hx rfl (hb hby at_11) rfl ((if0 _ _).trans (teq ((lw_eq _ _).mpr hc11_0)).2) k) ?_
    refine Goes.step (B := s₁.setTop (mkF m 15 #[.val (.long i0), .second, .val (.int i1), .val (.int i2), .val (.int i3), .val (.int i4), .val (.long inb), .second, .unset, .unset, .unset, .unset, .unset, .unset, .unset, .unset, .unset, .unset, .unset, .unset, .unset] [(.long (1 : Int64))])) (fun _ k => XS.lconst X0.here hx rfl (hb hby at_14) k) ?_
    refine Goes.step (B := s₁.setTop (mkF m 17 #[.val (.long i0), .second, .val (.int i1), .val (.int i2), .val (.int i3), .val (.int i4), .val (.long (1 : Int64)), .second, .unset, .unset, .unset, .unset, .unset, .unset, .unset, .unset, .unset, .unset, .unset, .unset, .unset] [])) (fun _ k => XS.lstore X0.here hx rfl (hb hby at_15) rfl (l' := #[.val (.long i0), .second, .val (.int i1), .val (.int i2), .val (.int i3), .val (.int i4), .val (.long (1 : Int64)), .second, .unset, .unset, .unset, .unset, .unset, .unset, .unset, .unset, .unset, .unset, .unset, .unset, .unset]) rfl k) ?_
    refine Goes.step (B := s₁.setTop (mkF m 18 #[.val (.long i0), .second, .val (.int i1), .val (.int i2), .val (.int i3), .val (.int i4), .val (.long (1 : Int64)), .second, .unset, .unset, .unset, .unset, .unset, .unset, .unset, .unset, .unset, .unset, .unset, .unset, .unset] [(.int i1)])) (fun _ k => XS.iloadN X0.here hx rfl (hb hby at_17) rfl k) ?_
    obtain ⟨_, _, ⟨T2, L2, k2, n2⟩, -, X2, ⟨Lc2, hQ2, l2, y2, z2⟩, st2⟩ := Jvm.LawKit.callS X0 hx (y := (⟨"wavecast/estimate/NewRunMapWavesPinLaw", "positive", "(I)I"⟩ : MethodName)) hown (mvT hZ (hw _ (List.mem_of_getElem? (i := 1) rfl))) (mvT hZ (hw _ (List.mem_of_getElem? (i := 2) rfl))) (mvT hZ (hw _ (List.mem_of_getElem? (i := 3) rfl))) (mvT hZ (hw _ (List.mem_of_getElem? (i := 4) rfl))) (by decide) (backOf (W := 0) (rm1 l Z a0 hw [] i1 h0 n0 O0 ) hZ (hw _ (List.mem_of_getElem? (i := 4) rfl)) (hw _ (List.mem_of_getElem? (i := 3) rfl)) (by decide) (by decide)) (g := (mkF m 18 #[.val (.long i0), .second, .val (.int i1), .val (.int i2), .val (.int i3), .val (.int i4), .val (.long (1 : Int64)), .second, .unset, .unset, .unset, .unset, .unset, .unset, .unset, .unset, .unset, .unset, .unset, .unset, .unset] [(.int i1)])) rfl (by rw [hml]; rfl) (argsL := [(.int i1)]) (rest := []) (lenOf pd_1 rfl) rfl (by show 2 * 0 + _ ≤ _; exact Nat.le_of_eq rfl) (hb hby at_18) (fun _ _ => ⟨rfl, e0, (by decide : 0 + 0 ≤ _), (by decide : 0 + 0 ≤ _)⟩)
    dsimp only [Pt.U, Pt.locs, Pt.cells, Pt.slots] at X2 l2 y2 z2 st2 hQ2
    subst l2 y2 z2
    obtain ⟨r_2, rfl, hr_2, Nq2, eh2⟩ := hQ2
    have N2 := Fr.app N0 Nq2
    refine Goes.step (B := T2.setTop (mkF m 21 #[.val (.long i0), .second, .val (.int i1), .val (.int i2), .val (.int i3), .val (.int i4), .val (.long (1 : Int64)), .second, .unset, .unset, .unset, .unset, .unset, .unset, .unset, .unset, .unset, .unset, .unset, .unset, .unset] [(.int r_2)])) st2 ?_
    refine Goes.step (B := T2.setTop (mkF m 23 #[.val (.long i0), .second, .val (.int i1), .val (.int i2), .val (.int i3), .val (.int i4), .val (.long (1 : Int64)), .second, .val (.int r_2), .unset, .unset, .unset, .unset, .unset, .unset, .unset, .unset, .unset, .unset, .unset, .unset] [])) (fun _ k => XS.istore X2.here hx rfl (hb hby at_21) rfl (l' := #[.val (.long i0), .second, .val (.int i1), .val (.int i2), .val (.int i3), .val (.int i4), .val (.long (1 : Int64)), .second, .val (.int r_2), .unset, .unset, .unset, .unset, .unset, .unset, .unset, .unset, .unset, .unset, .unset, .unset]) rfl k) ?_
    refine Goes.step (B := T2.setTop (mkF m 24 #[.val (.long i0), .second, .val (.int i1), .val (.int i2), .val (.int i3), .val (.int i4), .val (.long (1 : Int64)), .second, .val (.int r_2), .unset, .unset, .unset, .unset, .unset, .unset, .unset, .unset, .unset, .unset, .unset, .unset] [(.int i2)])) (fun _ k => XS.iloadN X2.here hx rfl (hb hby at_23) rfl k) ?_
    obtain ⟨_, _, ⟨T3, L3, k3, n3⟩, -, X3, ⟨Lc3, hQ3, l3, y3, z3⟩, st3⟩ := Jvm.LawKit.callS X2 hx (y := (⟨"wavecast/estimate/NewRunMapWavesPinLaw", "positive", "(I)I"⟩ : MethodName)) hown (mvT hZ (hw _ (List.mem_of_getElem? (i := 1) rfl))) (mvT hZ (hw _ (List.mem_of_getElem? (i := 2) rfl))) (mvT hZ (hw _ (List.mem_of_getElem? (i := 3) rfl))) (mvT hZ (hw _ (List.mem_of_getElem? (i := 4) rfl))) (by decide) (backOf (W := 0) (rm1 l Z a0 hw [] i2 h0 n0 O0 ) hZ (hw _ (List.mem_of_getElem? (i := 4) rfl)) (hw _ (List.mem_of_getElem? (i := 3) rfl)) (by decide) (by decide)) (g := (mkF m 24 #[.val (.long i0), .second, .val (.int i1), .val (.int i2), .val (.int i3), .val (.int i4), .val (.long (1 : Int64)), .second, .val (.int r_2), .unset, .unset, .unset, .unset, .unset, .unset, .unset, .unset, .unset, .unset, .unset, .unset] [(.int i2)])) rfl (by rw [hml]; rfl) (argsL := [(.int i2)]) (rest := []) (lenOf pd_1 rfl) rfl (by show 2 * 0 + _ ≤ _; exact Nat.le_of_eq rfl) (hb hby at_24) (fun _ _ => ⟨rfl, eh2, (by decide : 0 + 0 ≤ _), (by decide : 0 + 0 ≤ _)⟩)
    dsimp only [Pt.U, Pt.locs, Pt.cells, Pt.slots] at X3 l3 y3 z3 st3 hQ3
    subst l3 y3 z3
    obtain ⟨r_3, rfl, hr_3, Nq3, eh3⟩ := hQ3
    have N3 := Fr.app N2 Nq3
    refine Goes.step (B := T3.setTop (mkF m 27 #[.val (.long i0), .second, .val (.int i1), .val (.int i2), .val (.int i3), .val (.int i4), .val (.long (1 : Int64)), .second, .val (.int r_2), .unset, .unset, .unset, .unset, .unset, .unset, .unset, .unset, .unset, .unset, .unset, .unset] [(.int r_3)])) st3 ?_
    refine Goes.step (B := T3.setTop (mkF m 29 #[.val (.long i0), .second, .val (.int i1), .val (.int i2), .val (.int i3), .val (.int i4), .val (.long (1 : Int64)), .second, .val (.int r_2), .val (.int r_3), .unset, .unset, .unset, .unset, .unset, .unset, .unset, .unset, .unset, .unset, .unset] [])) (fun _ k => XS.istore X3.here hx rfl (hb hby at_27) rfl (l' := #[.val (.long i0), .second, .val (.int i1), .val (.int i2), .val (.int i3), .val (.int i4), .val (.long (1 : Int64)), .second, .val (.int r_2), .val (.int r_3), .unset, .unset, .unset, .unset, .unset, .unset, .unset, .unset, .unset, .unset, .unset]) rfl k) ?_
    refine Goes.step (B := T3.setTop (mkF m 31 #[.val (.long i0), .second, .val (.int i1), .val (.int i2), .val (.int i3), .val (.int i4), .val (.long (1 : Int64)), .second, .val (.int r_2), .val (.int r_3), .unset, .unset, .unset, .unset, .unset, .unset, .unset, .unset, .unset, .unset, .unset] [(.int i3)])) (fun _ k => XS.iload X3.here hx rfl (hb hby at_29) rfl k) ?_
    obtain ⟨_, _, ⟨T4, L4, k4, n4⟩, -, X4, ⟨Lc4, hQ4, l4, y4, z4⟩, st4⟩ := Jvm.LawKit.callS X3 hx (y := (⟨"wavecast/estimate/NewRunMapWavesPinLaw", "positive", "(I)I"⟩ : MethodName)) hown (mvT hZ (hw _ (List.mem_of_getElem? (i := 1) rfl))) (mvT hZ (hw _ (List.mem_of_getElem? (i := 2) rfl))) (mvT hZ (hw _ (List.mem_of_getElem? (i := 3) rfl))) (mvT hZ (hw _ (List.mem_of_getElem? (i := 4) rfl))) (by decide) (backOf (W := 0) (rm1 l Z a0 hw [] i3 h0 n0 O0 ) hZ (hw _ (List.mem_of_getElem? (i := 4) rfl)) (hw _ (List.mem_of_getElem? (i := 3) rfl)) (by decide) (by decide)) (g := (mkF m 31 #[.val (.long i0), .second, .val (.int i1), .val (.int i2), .val (.int i3), .val (.int i4), .val (.long (1 : Int64)), .second, .val (.int r_2), .val (.int r_3), .unset, .unset, .unset, .unset, .unset, .unset, .unset, .unset, .unset, .unset, .unset] [(.int i3)])) rfl (by rw [hml]; rfl) (argsL := [(.int i3)]) (rest := []) (lenOf pd_1 rfl) rfl (by show 2 * 0 + _ ≤ _; exact Nat.le_of_eq rfl) (hb hby at_31) (fun _ _ => ⟨rfl, eh3, (by decide : 0 + 0 ≤ _), (by decide : 0 + 0 ≤ _)⟩)
    dsimp only [Pt.U, Pt.locs, Pt.cells, Pt.slots] at X4 l4 y4 z4 st4 hQ4
    subst l4 y4 z4
    obtain ⟨r_4, rfl, hr_4, Nq4, eh4⟩ := hQ4
    have N4 := Fr.app N3 Nq4
    refine Goes.step (B := T4.setTop (mkF m 34 #[.val (.long i0), .second, .val (.int i1), .val (.int i2), .val (.int i3), .val (.int i4), .val (.long (1 : Int64)), .second, .val (.int r_2), .val (.int r_3), .unset, .unset, .unset, .unset, .unset, .unset, .unset, .unset, .unset, .unset, .unset] [(.int r_4)])) st4 ?_
    refine Goes.step (B := T4.setTop (mkF m 36 #[.val (.long i0), .second, .val (.int i1), .val (.int i2), .val (.int i3), .val (.int i4), .val (.long (1 : Int64)), .second, .val (.int r_2), .val (.int r_3), .val (.int r_4), .unset, .unset, .unset, .unset, .unset, .unset, .unset, .unset, .unset, .unset] [])) (fun _ k => XS.istore X4.here hx rfl (hb hby at_34) rfl (l' := #[.val (.long i0), .second, .val (.int i1), .val (.int i2), .val (.int i3), .val (.int i4), .val (.long (1 : Int64)), .second, .val (.int r_2), .val (.int r_3), .val (.int r_4), .unset, .unset, .unset, .unset, .unset, .unset, .unset, .unset, .unset, .unset]) rfl k) ?_
    refine Goes.step (B := T4.setTop (mkF m 38 #[.val (.long i0), .second, .val (.int i1), .val (.int i2), .val (.int i3), .val (.int i4), .val (.long (1 : Int64)), .second, .val (.int r_2), .val (.int r_3), .val (.int r_4), .unset, .unset, .unset, .unset, .unset, .unset, .unset, .unset, .unset, .unset] [(.int i4)])) (fun _ k => XS.iload X4.here hx rfl (hb hby at_36) rfl k) ?_
    obtain ⟨_, _, ⟨T5, L5, k5, n5⟩, -, X5, ⟨Lc5, hQ5, l5, y5, z5⟩, st5⟩ := Jvm.LawKit.callS X4 hx (y := (⟨"wavecast/estimate/NewRunMapWavesPinLaw", "positive", "(I)I"⟩ : MethodName)) hown (mvT hZ (hw _ (List.mem_of_getElem? (i := 1) rfl))) (mvT hZ (hw _ (List.mem_of_getElem? (i := 2) rfl))) (mvT hZ (hw _ (List.mem_of_getElem? (i := 3) rfl))) (mvT hZ (hw _ (List.mem_of_getElem? (i := 4) rfl))) (by decide) (backOf (W := 0) (rm1 l Z a0 hw [] i4 h0 n0 O0 ) hZ (hw _ (List.mem_of_getElem? (i := 4) rfl)) (hw _ (List.mem_of_getElem? (i := 3) rfl)) (by decide) (by decide)) (g := (mkF m 38 #[.val (.long i0), .second, .val (.int i1), .val (.int i2), .val (.int i3), .val (.int i4), .val (.long (1 : Int64)), .second, .val (.int r_2), .val (.int r_3), .val (.int r_4), .unset, .unset, .unset, .unset, .unset, .unset, .unset, .unset, .unset, .unset] [(.int i4)])) rfl (by rw [hml]; rfl) (argsL := [(.int i4)]) (rest := []) (lenOf pd_1 rfl) rfl (by show 2 * 0 + _ ≤ _; exact Nat.le_of_eq rfl) (hb hby at_38) (fun _ _ => ⟨rfl, eh4, (by decide : 0 + 0 ≤ _), (by decide : 0 + 0 ≤ _)⟩)
    dsimp only [Pt.U, Pt.locs, Pt.cells, Pt.slots] at X5 l5 y5 z5 st5 hQ5
    subst l5 y5 z5
    obtain ⟨r_5, rfl, hr_5, Nq5, eh5⟩ := hQ5
    have N5 := Fr.app N4 Nq5
    refine Goes.step (B := T5.setTop (mkF m 41 #[.val (.long i0), .second, .val (.int i1), .val (.int i2), .val (.int i3), .val (.int i4), .val (.long (1 : Int64)), .second, .val (.int r_2), .val (.int r_3), .val (.int r_4), .unset, .unset, .unset, .unset, .unset, .unset, .unset, .unset, .unset, .unset] [(.int r_5)])) st5 ?_
    refine Goes.step (B := T5.setTop (mkF m 43 #[.val (.long i0), .second, .val (.int i1), .val (.int i2), .val (.int i3), .val (.int i4), .val (.long (1 : Int64)), .second, .val (.int r_2), .val (.int r_3), .val (.int r_4), .val (.int r_5), .unset, .unset, .unset, .unset, .unset, .unset, .unset, .unset, .unset] [])) (fun _ k => XS.istore X5.here hx rfl (hb hby at_41) rfl (l' := #[.val (.long i0), .second, .val (.int i1), .val (.int i2), .val (.int i3), .val (.int i4), .val (.long (1 : Int64)), .second, .val (.int r_2), .val (.int r_3), .val (.int r_4), .val (.int r_5), .unset, .unset, .unset, .unset, .unset, .unset, .unset, .unset, .unset]) rfl k) ?_
    obtain ⟨T6, h6, X6, e6, E6, A6, D6, -, st6⟩ := newO X5 hx hZ hown (hw _ (List.mem_of_getElem? (i := 6) rfl)) (hw _ (List.mem_of_getElem? (i := 7) rfl)) (hw _ (List.mem_of_getElem? (i := 8) rfl)) eh5 (g := (mkF m 43 #[.val (.long i0), .second, .val (.int i1), .val (.int i2), .val (.int i3), .val (.int i4), .val (.long (1 : Int64)), .second, .val (.int r_2), .val (.int r_3), .val (.int r_4), .val (.int r_5), .unset, .unset, .unset, .unset, .unset, .unset, .unset, .unset, .unset] [])) rfl (hb hby at_43) (by decide) (by decide)
    obtain ⟨b6, g6⟩ : ∃ z, z = h0.size := ⟨_, rfl⟩
    rw [← g6] at A6 D6 st6
    have g_b6 : n0 ≤ b6 := Nat.le_trans (own_z O0) (Nat.le_of_eq g6.symm)
    have O_6 := O0.ext E6
    have F6_inputBytes : Fld Z h6 b6 "wavecast/estimate/NewRun" "inputBytes" "J" (.long (0 : Int64)) := D6 (Or.inr (hw _ (List.mem_of_getElem? (i := 21) rfl))) (ty := .long) (by decide)
    have F6_maps : Fld Z h6 b6 "wavecast/estimate/NewRun" "maps" "I" (.int (0 : Int32)) := D6 (Or.inr (hw _ (List.mem_of_getElem? (i := 23) rfl))) (ty := .int) (by decide)
    have F6_reduces : Fld Z h6 b6 "wavecast/estimate/NewRun" "reduces" "I" (.int (0 : Int32)) := D6 (Or.inr (hw _ (List.mem_of_getElem? (i := 25) rfl))) (ty := .int) (by decide)
    have F6_mapSlots : Fld Z h6 b6 "wavecast/estimate/NewRun" "mapSlots" "I" (.int (0 : Int32)) := D6 (Or.inr (hw _ (List.mem_of_getElem? (i := 27) rfl))) (ty := .int) (by decide)
    have F6_reduceSlots : Fld Z h6 b6 "wavecast/estimate/NewRun" "reduceSlots" "I" (.int (0 : Int32)) := D6 (Or.inr (hw _ (List.mem_of_getElem? (i := 29) rfl))) (ty := .int) (by decide)
    refine Goes.step (B := T6.setTop (mkF m 46 #[.val (.long i0), .second, .val (.int i1), .val (.int i2), .val (.int i3), .val (.int i4), .val (.long (1 : Int64)), .second, .val (.int r_2), .val (.int r_3), .val (.int r_4), .val (.int r_5), .unset, .unset, .unset, .unset, .unset, .unset, .unset, .unset, .unset] [(.ref b6)])) st6 ?_
    refine Goes.step (B := T6.setTop (mkF m 47 #[.val (.long i0), .second, .val (.int i1), .val (.int i2), .val (.int i3), .val (.int i4), .val (.long (1 : Int64)), .second, .val (.int r_2), .val (.int r_3), .val (.int r_4), .val (.int r_5), .unset, .unset, .unset, .unset, .unset, .unset, .unset, .unset, .unset] [(.ref b6), (.ref b6)])) (fun _ k => XS.dup X6.here hx rfl (hb hby at_46) rfl rfl k) ?_
    refine Goes.step (B := T6.setTop (mkF m 49 #[.val (.long i0), .second, .val (.int i1), .val (.int i2), .val (.int i3), .val (.int i4), .val (.long (1 : Int64)), .second, .val (.int r_2), .val (.int r_3), .val (.int r_4), .val (.int r_5), .unset, .unset, .unset, .unset, .unset, .unset, .unset, .unset, .unset] [(.long (1 : Int64)), (.ref b6), (.ref b6)])) (fun _ k => XS.lload X6.here hx rfl (hb hby at_47) rfl k) ?_
    refine Goes.step (B := T6.setTop (mkF m 51 #[.val (.long i0), .second, .val (.int i1), .val (.int i2), .val (.int i3), .val (.int i4), .val (.long (1 : Int64)), .second, .val (.int r_2), .val (.int r_3), .val (.int r_4), .val (.int r_5), .unset, .unset, .unset, .unset, .unset, .unset, .unset, .unset, .unset] [(.int r_2), (.long (1 : Int64)), (.ref b6), (.ref b6)])) (fun _ k => XS.iload X6.here hx rfl (hb hby at_49) rfl k) ?_
    refine Goes.step (B := T6.setTop (mkF m 53 #[.val (.long i0), .second, .val (.int i1), .val (.int i2), .val (.int i3), .val (.int i4), .val (.long (1 : Int64)), .second, .val (.int r_2), .val (.int r_3), .val (.int r_4), .val (.int r_5), .unset, .unset, .unset, .unset, .unset, .unset, .unset, .unset, .unset] [(.int r_3), (.int r_2), (.long (1 : Int64)), (.ref b6), (.ref b6)])) (fun _ k => XS.iload X6.here hx rfl (hb hby at_51) rfl k) ?_
    refine Goes.step (B := T6.setTop (mkF m 55 #[.val (.long i0), .second, .val (.int i1), .val (.int i2), .val (.int i3), .val (.int i4), .val (.long (1 : Int64)), .second, .val (.int r_2), .val (.int r_3), .val (.int r_4), .val (.int r_5), .unset, .unset, .unset, .unset, .unset, .unset, .unset, .unset, .unset] [(.int r_4), (.int r_3), (.int r_2), (.long (1 : Int64)), (.ref b6), (.ref b6)])) (fun _ k => XS.iload X6.here hx rfl (hb hby at_53) rfl k) ?_
    refine Goes.step (B := T6.setTop (mkF m 57 #[.val (.long i0), .second, .val (.int i1), .val (.int i2), .val (.int i3), .val (.int i4), .val (.long (1 : Int64)), .second, .val (.int r_2), .val (.int r_3), .val (.int r_4), .val (.int r_5), .unset, .unset, .unset, .unset, .unset, .unset, .unset, .unset, .unset] [(.int r_5), (.int r_4), (.int r_3), (.int r_2), (.long (1 : Int64)), (.ref b6), (.ref b6)])) (fun _ k => XS.iload X6.here hx rfl (hb hby at_55) rfl k) ?_
    obtain ⟨_, _, ⟨T7, L7, k7, n7⟩, -, X7, ⟨Lc7, hQ7, l7, y7, z7⟩, st7⟩ := X6.specialBack hx (y := (⟨"wavecast/estimate/NewRun", "<init>", "(JIIII)V"⟩ : MethodName)) rfl hown (mvT hZ (hw _ (List.mem_of_getElem? (i := 9) rfl))) (mvT hZ (hw _ (List.mem_of_getElem? (i := 10) rfl))) (mvT hZ (hw _ (List.mem_of_getElem? (i := 11) rfl))) (by decide) (backOf (W := 1) (rm2 l Z a0 hw [] b6 (1 : Int64) r_2 r_3 r_4 r_5 h6 n0 O_6 A6 g_b6 F6_inputBytes F6_maps F6_reduces F6_mapSlots F6_reduceSlots (by decide) (own_lt hr_2) (own_lt hr_3) (own_lt hr_4) (own_lt hr_5)) hZ (hw _ (List.mem_of_getElem? (i := 11) rfl)) (hw _ (List.mem_of_getElem? (i := 8) rfl)) (by decide) (by decide)) (g := (mkF m 57 #[.val (.long i0), .second, .val (.int i1), .val (.int i2), .val (.int i3), .val (.int i4), .val (.long (1 : Int64)), .second, .val (.int r_2), .val (.int r_3), .val (.int r_4), .val (.int r_5), .unset, .unset, .unset, .unset, .unset, .unset, .unset, .unset, .unset] [(.int r_5), (.int r_4), (.int r_3), (.int r_2), (.long (1 : Int64)), (.ref b6), (.ref b6)])) rfl (by rw [hml]; rfl) (Steps.refl _) (a := b6) (argsL := [(.long (1 : Int64)), (.int r_2), (.int r_3), (.int r_4), (.int r_5)]) (rest := [(.ref b6)]) (lenOf pd_2 rfl) rfl (by show 2 * 0 + _ ≤ _; exact Nat.le_of_eq rfl) (hb hby at_57) (fun _ _ => ⟨rfl, e6, (by decide : 1 + 0 ≤ _), (by decide : 5 + 0 ≤ _)⟩)
    dsimp only [Pt.U, Pt.locs, Pt.cells, Pt.slots] at X7 l7 y7 z7 st7 hQ7
    subst l7 y7 z7
    obtain ⟨rfl, Nq7, Kp7, Ex7, Fc7_inputBytes, Fc7_maps, Fc7_reduces, Fc7_mapSlots, Fc7_reduceSlots⟩ := hQ7
    have O_7 := O_6.keep Kp7 (allS g_b6 all0)
    have N7 := Fr.app N5 Nq7
    refine Goes.via (B := T7.setTop (mkF m 60 #[.val (.long i0), .second, .val (.int i1), .val (.int i2), .val (.int i3), .val (.int i4), .val (.long (1 : Int64)), .second, .val (.int r_2), .val (.int r_3), .val (.int r_4), .val (.int r_5), .unset, .unset, .unset, .unset, .unset, .unset, .unset, .unset, .unset] [(.ref b6)])) st7 ?_
    refine Goes.step (B := T7.setTop (mkF m 62 #[.val (.long i0), .second, .val (.int i1), .val (.int i2), .val (.int i3), .val (.int i4), .val (.long (1 : Int64)), .second, .val (.int r_2), .val (.int r_3), .val (.int r_4), .val (.int r_5), .val (.ref b6), .unset, .unset, .unset, .unset, .unset, .unset, .unset, .unset] [])) (fun _ k => XS.astore X7.here hx rfl (hb hby at_60) rfl rfl (l' := #[.val (.long i0), .second, .val (.int i1), .val (.int i2), .val (.int i3), .val (.int i4), .val (.long (1 : Int64)), .second, .val (.int r_2), .val (.int r_3), .val (.int r_4), .val (.int r_5), .val (.ref b6), .unset, .unset, .unset, .unset, .unset, .unset, .unset, .unset]) rfl k) ?_
    refine Goes.step (B := T7.setTop (mkF m 64 #[.val (.long i0), .second, .val (.int i1), .val (.int i2), .val (.int i3), .val (.int i4), .val (.long (1 : Int64)), .second, .val (.int r_2), .val (.int r_3), .val (.int r_4), .val (.int r_5), .val (.ref b6), .unset, .unset, .unset, .unset, .unset, .unset, .unset, .unset] [(.ref b6)])) (fun _ k => XS.aload X7.here hx rfl (hb hby at_62) rfl rfl k) ?_
    obtain ⟨cq8, kq8, qa8, qb8, qc8⟩ := isOf hZ rfl Ex7
    obtain ⟨_, _, ⟨T8, L8, k8, n8⟩, -, X8, ⟨Lc8, hQ8, l8, y8, z8⟩, st8⟩ := X7.virtualBack hx (y := (⟨"wavecast/estimate/NewRun", "mapWaves", "()J"⟩ : MethodName)) (z := (⟨"wavecast/estimate/NewRun", "mapWaves", "()J"⟩ : MethodName)) hown (mvT hZ (hw _ (List.mem_of_getElem? (i := 30) rfl))) (mvT hZ (hw _ (List.mem_of_getElem? (i := 31) rfl))) (notFace_of_selects (args := #[]) (mvT hZ (hw _ (List.mem_of_getElem? (i := 33) rfl)))) (mvT hZ (hw _ (List.mem_of_getElem? (i := 33) rfl))) (mvT hZ (hw _ (List.mem_of_getElem? (i := 32) rfl))) (by decide) (backOf (W := 0) (rm5 l Z a0 hw [] b6 r_2 r_4 T7.heap n0 O_7 hr_4 Fc7_maps Fc7_mapSlots) hZ (hw _ (List.mem_of_getElem? (i := 34) rfl)) (hw _ (List.mem_of_getElem? (i := 8) rfl)) (by decide) (by decide)) qa8 qc8 (g := (mkF m 64 #[.val (.long i0), .second, .val (.int i1), .val (.int i2), .val (.int i3), .val (.int i4), .val (.long (1 : Int64)), .second, .val (.int r_2), .val (.int r_3), .val (.int r_4), .val (.int r_5), .val (.ref b6), .unset, .unset, .unset, .unset, .unset, .unset, .unset, .unset] [(.ref b6)])) rfl (by rw [hml]; rfl) (Steps.refl _) (argsL := []) (rest := []) (lenOf pd_3 rfl) rfl (by show 2 * 0 + _ ≤ _; exact Nat.le_of_eq rfl) (hb hby at_64) (fun _ _ => ⟨rfl, rfl, (by decide : 1 + 0 ≤ _), (by decide : 5 + 0 ≤ _)⟩)
    dsimp only [Pt.U, Pt.locs, Pt.cells, Pt.slots] at X8 l8 y8 z8 st8 hQ8
    subst l8 y8 z8
    obtain ⟨rfl, Nq8, eh8⟩ := hQ8
    have N8 := Fr.app N7 Nq8
    refine Goes.via (B := T8.setTop (mkF m 67 #[.val (.long i0), .second, .val (.int i1), .val (.int i2), .val (.int i3), .val (.int i4), .val (.long (1 : Int64)), .second, .val (.int r_2), .val (.int r_3), .val (.int r_4), .val (.int r_5), .val (.ref b6), .unset, .unset, .unset, .unset, .unset, .unset, .unset, .unset] [(.long ((((r_2.toInt64) - (1 : Int64)) / (r_4.toInt64)) + (1 : Int64)))])) st8 ?_
    obtain ⟨wv, hwv⟩ : ∃ z, z = ((((r_2.toInt64) - (1 : Int64)) / (r_4.toInt64)) + (1 : Int64)) := ⟨_, rfl⟩
    rw [← hwv]
    obtain ⟨hb1, hb2, hb3, hb4⟩ := own_w hwv hr_2 hr_4
    refine Goes.step (B := T8.setTop (mkF m 69 #[.val (.long i0), .second, .val (.int i1), .val (.int i2), .val (.int i3), .val (.int i4), .val (.long (1 : Int64)), .second, .val (.int r_2), .val (.int r_3), .val (.int r_4), .val (.int r_5), .val (.ref b6), .val (.long wv), .second, .unset, .unset, .unset, .unset, .unset, .unset] [])) (fun _ k => XS.lstore X8.here hx rfl (hb hby at_67) rfl (l' := #[.val (.long i0), .second, .val (.int i1), .val (.int i2), .val (.int i3), .val (.int i4), .val (.long (1 : Int64)), .second, .val (.int r_2), .val (.int r_3), .val (.int r_4), .val (.int r_5), .val (.ref b6), .val (.long wv), .second, .unset, .unset, .unset, .unset, .unset, .unset]) rfl k) ?_
    refine Goes.step (B := T8.setTop (mkF m 71 #[.val (.long i0), .second, .val (.int i1), .val (.int i2), .val (.int i3), .val (.int i4), .val (.long (1 : Int64)), .second, .val (.int r_2), .val (.int r_3), .val (.int r_4), .val (.int r_5), .val (.ref b6), .val (.long wv), .second, .unset, .unset, .unset, .unset, .unset, .unset] [(.long wv)])) (fun _ k => XS.lload X8.here hx rfl (hb hby at_69) rfl k) ?_
    refine Goes.step (B := T8.setTop (mkF m 72 #[.val (.long i0), .second, .val (.int i1), .val (.int i2), .val (.int i3), .val (.int i4), .val (.long (1 : Int64)), .second, .val (.int r_2), .val (.int r_3), .val (.int r_4), .val (.int r_5), .val (.ref b6), .val (.long wv), .second, .unset, .unset, .unset, .unset, .unset, .unset] [(.long (1 : Int64)), (.long wv)])) (fun _ k => XS.lconst X8.here hx rfl (hb hby at_71) k) ?_
    refine Goes.step (B := T8.setTop (mkF m 73 #[.val (.long i0), .second, .val (.int i1), .val (.int i2), .val (.int i3), .val (.int i4), .val (.long (1 : Int64)), .second, .val (.int r_2), .val (.int r_3), .val (.int r_4), .val (.int r_5), .val (.ref b6), .val (.long wv), .second, .unset, .unset, .unset, .unset, .unset, .unset] [(.int (lcmpW wv (1 : Int64)))])) (fun _ k => XS.lcmp X8.here hx rfl (hb hby at_72) rfl k) ?_
    refine Goes.step (B := T8.setTop (mkF m 78 #[.val (.long i0), .second, .val (.int i1), .val (.int i2), .val (.int i3), .val (.int i4), .val (.long (1 : Int64)), .second, .val (.int r_2), .val (.int r_3), .val (.int r_4), .val (.int r_5), .val (.ref b6), .val (.long wv), .second, .unset, .unset, .unset, .unset, .unset, .unset] [])) (fun _ k => XS.ifYes X8.here hx rfl (pc0 := 73) (pc' := 78) rfl (hb hby at_73) rfl ((if0 _ _).trans (flt (fun q => hb1 ((lw_lt _ _).mp q))).2.1) (by decide) (by decide) k) ?_
    refine Goes.step (B := T8.setTop (mkF m 80 #[.val (.long i0), .second, .val (.int i1), .val (.int i2), .val (.int i3), .val (.int i4), .val (.long (1 : Int64)), .second, .val (.int r_2), .val (.int r_3), .val (.int r_4), .val (.int r_5), .val (.ref b6), .val (.long wv), .second, .unset, .unset, .unset, .unset, .unset, .unset] [(.long wv)])) (fun _ k => XS.lload X8.here hx rfl (hb hby at_78) rfl k) ?_
    refine Goes.step (B := T8.setTop (mkF m 83 #[.val (.long i0), .second, .val (.int i1), .val (.int i2), .val (.int i3), .val (.int i4), .val (.long (1 : Int64)), .second, .val (.int r_2), .val (.int r_3), .val (.int r_4), .val (.int r_5), .val (.ref b6), .val (.long wv), .second, .unset, .unset, .unset, .unset, .unset, .unset] [(.long (2147483647 : Int64)), (.long wv)])) (X8.ldc2Long hx hown (mvT hZ (hw _ (List.mem_of_getElem? (i := 35) rfl))) (g := (mkF m 80 #[.val (.long i0), .second, .val (.int i1), .val (.int i2), .val (.int i3), .val (.int i4), .val (.long (1 : Int64)), .second, .val (.int r_2), .val (.int r_3), .val (.int r_4), .val (.int r_5), .val (.ref b6), .val (.long wv), .second, .unset, .unset, .unset, .unset, .unset, .unset] [(.long wv)])) rfl (hb hby at_80)) ?_
    refine Goes.step (B := T8.setTop (mkF m 84 #[.val (.long i0), .second, .val (.int i1), .val (.int i2), .val (.int i3), .val (.int i4), .val (.long (1 : Int64)), .second, .val (.int r_2), .val (.int r_3), .val (.int r_4), .val (.int r_5), .val (.ref b6), .val (.long wv), .second, .unset, .unset, .unset, .unset, .unset, .unset] [(.int (lcmpW wv (2147483647 : Int64)))])) (fun _ k => XS.lcmp X8.here hx rfl (hb hby at_83) rfl k) ?_
    refine Goes.step (B := T8.setTop (mkF m 89 #[.val (.long i0), .second, .val (.int i1), .val (.int i2), .val (.int i3), .val (.int i4), .val (.long (1 : Int64)), .second, .val (.int r_2), .val (.int r_3), .val (.int r_4), .val (.int r_5), .val (.ref b6), .val (.long wv), .second, .unset, .unset, .unset, .unset, .unset, .unset] [])) (fun _ k => XS.ifYes X8.here hx rfl (pc0 := 84) (pc' := 89) rfl (hb hby at_84) rfl ((if0 _ _).trans (flt (fun q => hb2 ((lw_gt _ _).mp q))).2.2.2) (by decide) (by decide) k) ?_
    refine Goes.step (B := T8.setTop (mkF m 91 #[.val (.long i0), .second, .val (.int i1), .val (.int i2), .val (.int i3), .val (.int i4), .val (.long (1 : Int64)), .second, .val (.int r_2), .val (.int r_3), .val (.int r_4), .val (.int r_5), .val (.ref b6), .val (.long wv), .second, .unset, .unset, .unset, .unset, .unset, .unset] [(.int r_4)])) (fun _ k => XS.iload X8.here hx rfl (hb hby at_89) rfl k) ?_
    refine Goes.step (B := T8.setTop (mkF m 92 #[.val (.long i0), .second, .val (.int i1), .val (.int i2), .val (.int i3), .val (.int i4), .val (.long (1 : Int64)), .second, .val (.int r_2), .val (.int r_3), .val (.int r_4), .val (.int r_5), .val (.ref b6), .val (.long wv), .second, .unset, .unset, .unset, .unset, .unset, .unset] [(.long (r_4.toInt64))])) (fun _ k => XS.i2l X8.here hx rfl (hb hby at_91) rfl k) ?_
    refine Goes.step (B := T8.setTop (mkF m 94 #[.val (.long i0), .second, .val (.int i1), .val (.int i2), .val (.int i3), .val (.int i4), .val (.long (1 : Int64)), .second, .val (.int r_2), .val (.int r_3), .val (.int r_4), .val (.int r_5), .val (.ref b6), .val (.long wv), .second, .val (.long (r_4.toInt64)), .second, .unset, .unset, .unset, .unset] [])) (fun _ k => XS.lstore X8.here hx rfl (hb hby at_92) rfl (l' := #[.val (.long i0), .second, .val (.int i1), .val (.int i2), .val (.int i3), .val (.int i4), .val (.long (1 : Int64)), .second, .val (.int r_2), .val (.int r_3), .val (.int r_4), .val (.int r_5), .val (.ref b6), .val (.long wv), .second, .val (.long (r_4.toInt64)), .second, .unset, .unset, .unset, .unset]) rfl k) ?_
    refine Goes.step (B := T8.setTop (mkF m 96 #[.val (.long i0), .second, .val (.int i1), .val (.int i2), .val (.int i3), .val (.int i4), .val (.long (1 : Int64)), .second, .val (.int r_2), .val (.int r_3), .val (.int r_4), .val (.int r_5), .val (.ref b6), .val (.long wv), .second, .val (.long (r_4.toInt64)), .second, .unset, .unset, .unset, .unset] [(.int r_2)])) (fun _ k => XS.iload X8.here hx rfl (hb hby at_94) rfl k) ?_
    refine Goes.step (B := T8.setTop (mkF m 97 #[.val (.long i0), .second, .val (.int i1), .val (.int i2), .val (.int i3), .val (.int i4), .val (.long (1 : Int64)), .second, .val (.int r_2), .val (.int r_3), .val (.int r_4), .val (.int r_5), .val (.ref b6), .val (.long wv), .second, .val (.long (r_4.toInt64)), .second, .unset, .unset, .unset, .unset] [(.long (r_2.toInt64))])) (fun _ k => XS.i2l X8.here hx rfl (hb hby at_96) rfl k) ?_
    refine Goes.step (B := T8.setTop (mkF m 99 #[.val (.long i0), .second, .val (.int i1), .val (.int i2), .val (.int i3), .val (.int i4), .val (.long (1 : Int64)), .second, .val (.int r_2), .val (.int r_3), .val (.int r_4), .val (.int r_5), .val (.ref b6), .val (.long wv), .second, .val (.long (r_4.toInt64)), .second, .val (.long (r_2.toInt64)), .second, .unset, .unset] [])) (fun _ k => XS.lstore X8.here hx rfl (hb hby at_97) rfl (l' := #[.val (.long i0), .second, .val (.int i1), .val (.int i2), .val (.int i3), .val (.int i4), .val (.long (1 : Int64)), .second, .val (.int r_2), .val (.int r_3), .val (.int r_4), .val (.int r_5), .val (.ref b6), .val (.long wv), .second, .val (.long (r_4.toInt64)), .second, .val (.long (r_2.toInt64)), .second, .unset, .unset]) rfl k) ?_
    refine Goes.step (B := T8.setTop (mkF m 101 #[.val (.long i0), .second, .val (.int i1), .val (.int i2), .val (.int i3), .val (.int i4), .val (.long (1 : Int64)), .second, .val (.int r_2), .val (.int r_3), .val (.int r_4), .val (.int r_5), .val (.ref b6), .val (.long wv), .second, .val (.long (r_4.toInt64)), .second, .val (.long (r_2.toInt64)), .second, .unset, .unset] [(.long (r_2.toInt64))])) (fun _ k => XS.lload X8.here hx rfl (hb hby at_99) rfl k) ?_
    refine Goes.step (B := T8.setTop (mkF m 103 #[.val (.long i0), .second, .val (.int i1), .val (.int i2), .val (.int i3), .val (.int i4), .val (.long (1 : Int64)), .second, .val (.int r_2), .val (.int r_3), .val (.int r_4), .val (.int r_5), .val (.ref b6), .val (.long wv), .second, .val (.long (r_4.toInt64)), .second, .val (.long (r_2.toInt64)), .second, .unset, .unset] [(.long wv), (.long (r_2.toInt64))])) (fun _ k => XS.lload X8.here hx rfl (hb hby at_101) rfl k) ?_
    refine Goes.step (B := T8.setTop (mkF m 105 #[.val (.long i0), .second, .val (.int i1), .val (.int i2), .val (.int i3), .val (.int i4), .val (.long (1 : Int64)), .second, .val (.int r_2), .val (.int r_3), .val (.int r_4), .val (.int r_5), .val (.ref b6), .val (.long wv), .second, .val (.long (r_4.toInt64)), .second, .val (.long (r_2.toInt64)), .second, .unset, .unset] [(.long (r_4.toInt64)), (.long wv), (.long (r_2.toInt64))])) (fun _ k => XS.lload X8.here hx rfl (hb hby at_103) rfl k) ?_
    refine Goes.step (B := T8.setTop (mkF m 106 #[.val (.long i0), .second, .val (.int i1), .val (.int i2), .val (.int i3), .val (.int i4), .val (.long (1 : Int64)), .second, .val (.int r_2), .val (.int r_3), .val (.int r_4), .val (.int r_5), .val (.ref b6), .val (.long wv), .second, .val (.long (r_4.toInt64)), .second, .val (.long (r_2.toInt64)), .second, .unset, .unset] [(.long (wv * (r_4.toInt64))), (.long (r_2.toInt64))])) (fun _ k => XS.lmul X8.here hx rfl (hb hby at_105) rfl k) ?_
    refine Goes.step (B := T8.setTop (mkF m 107 #[.val (.long i0), .second, .val (.int i1), .val (.int i2), .val (.int i3), .val (.int i4), .val (.long (1 : Int64)), .second, .val (.int r_2), .val (.int r_3), .val (.int r_4), .val (.int r_5), .val (.ref b6), .val (.long wv), .second, .val (.long (r_4.toInt64)), .second, .val (.long (r_2.toInt64)), .second, .unset, .unset] [(.int (lcmpW (r_2.toInt64) (wv * (r_4.toInt64))))])) (fun _ k => XS.lcmp X8.here hx rfl (hb hby at_106) rfl k) ?_
    refine Goes.step (B := T8.setTop (mkF m 110 #[.val (.long i0), .second, .val (.int i1), .val (.int i2), .val (.int i3), .val (.int i4), .val (.long (1 : Int64)), .second, .val (.int r_2), .val (.int r_3), .val (.int r_4), .val (.int r_5), .val (.ref b6), .val (.long wv), .second, .val (.long (r_4.toInt64)), .second, .val (.long (r_2.toInt64)), .second, .unset, .unset] [])) (fun _ k => XS.ifNo X8.here hx rfl (hb hby at_107) rfl ((if0 _ _).trans (flt (fun q => hb3 ((lw_gt _ _).mp q))).2.2.1) k) ?_
    refine Goes.step (B := T8.setTop (mkF m 111 #[.val (.long i0), .second, .val (.int i1), .val (.int i2), .val (.int i3), .val (.int i4), .val (.long (1 : Int64)), .second, .val (.int r_2), .val (.int r_3), .val (.int r_4), .val (.int r_5), .val (.ref b6), .val (.long wv), .second, .val (.long (r_4.toInt64)), .second, .val (.long (r_2.toInt64)), .second, .unset, .unset] [(.int (1 : Int32))])) (fun _ k => XS.iconst X8.here hx rfl (hb hby at_110) k) ?_
    refine Goes.step (B := T8.setTop (mkF m 115 #[.val (.long i0), .second, .val (.int i1), .val (.int i2), .val (.int i3), .val (.int i4), .val (.long (1 : Int64)), .second, .val (.int r_2), .val (.int r_3), .val (.int r_4), .val (.int r_5), .val (.ref b6), .val (.long wv), .second, .val (.long (r_4.toInt64)), .second, .val (.long (r_2.toInt64)), .second, .unset, .unset] [(.int (1 : Int32))])) (fun _ k => XS.goto X8.here hx rfl (pc0 := 111) (pc' := 115) rfl (hb hby at_111) (by decide) (by decide) k) ?_
    refine Goes.step (B := T8.setTop (mkF m 117 #[.val (.long i0), .second, .val (.int i1), .val (.int i2), .val (.int i3), .val (.int i4), .val (.long (1 : Int64)), .second, .val (.int r_2), .val (.int r_3), .val (.int r_4), .val (.int r_5), .val (.ref b6), .val (.long wv), .second, .val (.long (r_4.toInt64)), .second, .val (.long (r_2.toInt64)), .second, .val (.int (1 : Int32)), .unset] [])) (fun _ k => XS.istore X8.here hx rfl (hb hby at_115) rfl (l' := #[.val (.long i0), .second, .val (.int i1), .val (.int i2), .val (.int i3), .val (.int i4), .val (.long (1 : Int64)), .second, .val (.int r_2), .val (.int r_3), .val (.int r_4), .val (.int r_5), .val (.ref b6), .val (.long wv), .second, .val (.long (r_4.toInt64)), .second, .val (.long (r_2.toInt64)), .second, .val (.int (1 : Int32)), .unset]) rfl k) ?_
    refine Goes.step (B := T8.setTop (mkF m 119 #[.val (.long i0), .second, .val (.int i1), .val (.int i2), .val (.int i3), .val (.int i4), .val (.long (1 : Int64)), .second, .val (.int r_2), .val (.int r_3), .val (.int r_4), .val (.int r_5), .val (.ref b6), .val (.long wv), .second, .val (.long (r_4.toInt64)), .second, .val (.long (r_2.toInt64)), .second, .val (.int (1 : Int32)), .unset] [(.long wv)])) (fun _ k => XS.lload X8.here hx rfl (hb hby at_117) rfl k) ?_
    refine Goes.step (B := T8.setTop (mkF m 120 #[.val (.long i0), .second, .val (.int i1), .val (.int i2), .val (.int i3), .val (.int i4), .val (.long (1 : Int64)), .second, .val (.int r_2), .val (.int r_3), .val (.int r_4), .val (.int r_5), .val (.ref b6), .val (.long wv), .second, .val (.long (r_4.toInt64)), .second, .val (.long (r_2.toInt64)), .second, .val (.int (1 : Int32)), .unset] [(.long (1 : Int64)), (.long wv)])) (fun _ k => XS.lconst X8.here hx rfl (hb hby at_119) k) ?_
    refine Goes.step (B := T8.setTop (mkF m 121 #[.val (.long i0), .second, .val (.int i1), .val (.int i2), .val (.int i3), .val (.int i4), .val (.long (1 : Int64)), .second, .val (.int r_2), .val (.int r_3), .val (.int r_4), .val (.int r_5), .val (.ref b6), .val (.long wv), .second, .val (.long (r_4.toInt64)), .second, .val (.long (r_2.toInt64)), .second, .val (.int (1 : Int32)), .unset] [(.long (wv - (1 : Int64)))])) (fun _ k => XS.lsub X8.here hx rfl (hb hby at_120) rfl k) ?_
    refine Goes.step (B := T8.setTop (mkF m 123 #[.val (.long i0), .second, .val (.int i1), .val (.int i2), .val (.int i3), .val (.int i4), .val (.long (1 : Int64)), .second, .val (.int r_2), .val (.int r_3), .val (.int r_4), .val (.int r_5), .val (.ref b6), .val (.long wv), .second, .val (.long (r_4.toInt64)), .second, .val (.long (r_2.toInt64)), .second, .val (.int (1 : Int32)), .unset] [(.long (r_4.toInt64)), (.long (wv - (1 : Int64)))])) (fun _ k => XS.lload X8.here hx rfl (hb hby at_121) rfl k) ?_
    refine Goes.step (B := T8.setTop (mkF m 124 #[.val (.long i0), .second, .val (.int i1), .val (.int i2), .val (.int i3), .val (.int i4), .val (.long (1 : Int64)), .second, .val (.int r_2), .val (.int r_3), .val (.int r_4), .val (.int r_5), .val (.ref b6), .val (.long wv), .second, .val (.long (r_4.toInt64)), .second, .val (.long (r_2.toInt64)), .second, .val (.int (1 : Int32)), .unset] [(.long ((wv - (1 : Int64)) * (r_4.toInt64)))])) (fun _ k => XS.lmul X8.here hx rfl (hb hby at_123) rfl k) ?_
    refine Goes.step (B := T8.setTop (mkF m 126 #[.val (.long i0), .second, .val (.int i1), .val (.int i2), .val (.int i3), .val (.int i4), .val (.long (1 : Int64)), .second, .val (.int r_2), .val (.int r_3), .val (.int r_4), .val (.int r_5), .val (.ref b6), .val (.long wv), .second, .val (.long (r_4.toInt64)), .second, .val (.long (r_2.toInt64)), .second, .val (.int (1 : Int32)), .unset] [(.long (r_2.toInt64)), (.long ((wv - (1 : Int64)) * (r_4.toInt64)))])) (fun _ k => XS.lload X8.here hx rfl (hb hby at_124) rfl k) ?_
    refine Goes.step (B := T8.setTop (mkF m 127 #[.val (.long i0), .second, .val (.int i1), .val (.int i2), .val (.int i3), .val (.int i4), .val (.long (1 : Int64)), .second, .val (.int r_2), .val (.int r_3), .val (.int r_4), .val (.int r_5), .val (.ref b6), .val (.long wv), .second, .val (.long (r_4.toInt64)), .second, .val (.long (r_2.toInt64)), .second, .val (.int (1 : Int32)), .unset] [(.int (lcmpW ((wv - (1 : Int64)) * (r_4.toInt64)) (r_2.toInt64)))])) (fun _ k => XS.lcmp X8.here hx rfl (hb hby at_126) rfl k) ?_
    refine Goes.step (B := T8.setTop (mkF m 130 #[.val (.long i0), .second, .val (.int i1), .val (.int i2), .val (.int i3), .val (.int i4), .val (.long (1 : Int64)), .second, .val (.int r_2), .val (.int r_3), .val (.int r_4), .val (.int r_5), .val (.ref b6), .val (.long wv), .second, .val (.long (r_4.toInt64)), .second, .val (.long (r_2.toInt64)), .second, .val (.int (1 : Int32)), .unset] [])) (fun _ k => XS.ifNo X8.here hx rfl (hb hby at_127) rfl ((if0 _ _).trans (tlt ((lw_lt _ _).mpr hb4)).2.1) k) ?_
    refine Goes.step (B := T8.setTop (mkF m 131 #[.val (.long i0), .second, .val (.int i1), .val (.int i2), .val (.int i3), .val (.int i4), .val (.long (1 : Int64)), .second, .val (.int r_2), .val (.int r_3), .val (.int r_4), .val (.int r_5), .val (.ref b6), .val (.long wv), .second, .val (.long (r_4.toInt64)), .second, .val (.long (r_2.toInt64)), .second, .val (.int (1 : Int32)), .unset] [(.int (1 : Int32))])) (fun _ k => XS.iconst X8.here hx rfl (hb hby at_130) k) ?_
    refine Goes.step (B := T8.setTop (mkF m 135 #[.val (.long i0), .second, .val (.int i1), .val (.int i2), .val (.int i3), .val (.int i4), .val (.long (1 : Int64)), .second, .val (.int r_2), .val (.int r_3), .val (.int r_4), .val (.int r_5), .val (.ref b6), .val (.long wv), .second, .val (.long (r_4.toInt64)), .second, .val (.long (r_2.toInt64)), .second, .val (.int (1 : Int32)), .unset] [(.int (1 : Int32))])) (fun _ k => XS.goto X8.here hx rfl (pc0 := 131) (pc' := 135) rfl (hb hby at_131) (by decide) (by decide) k) ?_
    refine Goes.step (B := T8.setTop (mkF m 137 #[.val (.long i0), .second, .val (.int i1), .val (.int i2), .val (.int i3), .val (.int i4), .val (.long (1 : Int64)), .second, .val (.int r_2), .val (.int r_3), .val (.int r_4), .val (.int r_5), .val (.ref b6), .val (.long wv), .second, .val (.long (r_4.toInt64)), .second, .val (.long (r_2.toInt64)), .second, .val (.int (1 : Int32)), .val (.int (1 : Int32))] [])) (fun _ k => XS.istore X8.here hx rfl (hb hby at_135) rfl (l' := #[.val (.long i0), .second, .val (.int i1), .val (.int i2), .val (.int i3), .val (.int i4), .val (.long (1 : Int64)), .second, .val (.int r_2), .val (.int r_3), .val (.int r_4), .val (.int r_5), .val (.ref b6), .val (.long wv), .second, .val (.long (r_4.toInt64)), .second, .val (.long (r_2.toInt64)), .second, .val (.int (1 : Int32)), .val (.int (1 : Int32))]) rfl k) ?_
    refine Goes.step (B := T8.setTop (mkF m 139 #[.val (.long i0), .second, .val (.int i1), .val (.int i2), .val (.int i3), .val (.int i4), .val (.long (1 : Int64)), .second, .val (.int r_2), .val (.int r_3), .val (.int r_4), .val (.int r_5), .val (.ref b6), .val (.long wv), .second, .val (.long (r_4.toInt64)), .second, .val (.long (r_2.toInt64)), .second, .val (.int (1 : Int32)), .val (.int (1 : Int32))] [(.int (1 : Int32))])) (fun _ k => XS.iload X8.here hx rfl (hb hby at_137) rfl k) ?_
    refine Goes.step (B := T8.setTop (mkF m 142 #[.val (.long i0), .second, .val (.int i1), .val (.int i2), .val (.int i3), .val (.int i4), .val (.long (1 : Int64)), .second, .val (.int r_2), .val (.int r_3), .val (.int r_4), .val (.int r_5), .val (.ref b6), .val (.long wv), .second, .val (.long (r_4.toInt64)), .second, .val (.long (r_2.toInt64)), .second, .val (.int (1 : Int32)), .val (.int (1 : Int32))] [])) (fun _ k => XS.ifNo X8.here hx rfl (hb hby at_139) rfl ((if0 _ _).trans (feq (by decide)).1) k) ?_
    refine Goes.step (B := T8.setTop (mkF m 144 #[.val (.long i0), .second, .val (.int i1), .val (.int i2), .val (.int i3), .val (.int i4), .val (.long (1 : Int64)), .second, .val (.int r_2), .val (.int r_3), .val (.int r_4), .val (.int r_5), .val (.ref b6), .val (.long wv), .second, .val (.long (r_4.toInt64)), .second, .val (.long (r_2.toInt64)), .second, .val (.int (1 : Int32)), .val (.int (1 : Int32))] [(.int (1 : Int32))])) (fun _ k => XS.iload X8.here hx rfl (hb hby at_142) rfl k) ?_
    refine Goes.step (B := T8.setTop (mkF m 147 #[.val (.long i0), .second, .val (.int i1), .val (.int i2), .val (.int i3), .val (.int i4), .val (.long (1 : Int64)), .second, .val (.int r_2), .val (.int r_3), .val (.int r_4), .val (.int r_5), .val (.ref b6), .val (.long wv), .second, .val (.long (r_4.toInt64)), .second, .val (.long (r_2.toInt64)), .second, .val (.int (1 : Int32)), .val (.int (1 : Int32))] [])) (fun _ k => XS.ifNo X8.here hx rfl (hb hby at_144) rfl ((if0 _ _).trans (feq (by decide)).1) k) ?_
    refine Goes.step (B := T8.setTop (mkF m 148 #[.val (.long i0), .second, .val (.int i1), .val (.int i2), .val (.int i3), .val (.int i4), .val (.long (1 : Int64)), .second, .val (.int r_2), .val (.int r_3), .val (.int r_4), .val (.int r_5), .val (.ref b6), .val (.long wv), .second, .val (.long (r_4.toInt64)), .second, .val (.long (r_2.toInt64)), .second, .val (.int (1 : Int32)), .val (.int (1 : Int32))] [(.int (1 : Int32))])) (fun _ k => XS.iconst X8.here hx rfl (hb hby at_147) k) ?_
    refine Goes.step (B := T8.setTop (mkF m 152 #[.val (.long i0), .second, .val (.int i1), .val (.int i2), .val (.int i3), .val (.int i4), .val (.long (1 : Int64)), .second, .val (.int r_2), .val (.int r_3), .val (.int r_4), .val (.int r_5), .val (.ref b6), .val (.long wv), .second, .val (.long (r_4.toInt64)), .second, .val (.long (r_2.toInt64)), .second, .val (.int (1 : Int32)), .val (.int (1 : Int32))] [(.int (1 : Int32))])) (fun _ k => XS.goto X8.here hx rfl (pc0 := 148) (pc' := 152) rfl (hb hby at_148) (by decide) (by decide) k) ?_
    exact Goes.retN X8 hx eh8 (t := .boolean) Bd.returns (by simp) hlk (hb hby at_152) (by decide) (by decide) (⟨rfl, N8⟩)
  · refine Goes.step (B := s₁.setTop (mkF m 17 #[.val (.long i0), .second, .val (.int i1), .val (.int i2), .val (.int i3), .val (.int i4), .val (.long inb), .second, .unset, .unset, .unset, .unset, .unset, .unset, .unset, .unset, .unset, .unset, .unset, .unset, .unset] [])) (fun _ k => XS.ifYes X0.here hx rfl (pc0 := 11) (pc' := 17) rfl (hb hby at_11) rfl ((if0 _ _).trans (feq (fun q => hc11_0 ((lw_eq _ _).mp q))).2) (by decide) (by decide) k) ?_
    refine Goes.step (B := s₁.setTop (mkF m 18 #[.val (.long i0), .second, .val (.int i1), .val (.int i2), .val (.int i3), .val (.int i4), .val (.long inb), .second, .unset, .unset, .unset, .unset, .unset, .unset, .unset, .unset, .unset, .unset, .unset, .unset, .unset] [(.int i1)])) (fun _ k => XS.iloadN X0.here hx rfl (hb hby at_17) rfl k) ?_
    obtain ⟨_, _, ⟨T9, L9, k9, n9⟩, -, X9, ⟨Lc9, hQ9, l9, y9, z9⟩, st9⟩ := Jvm.LawKit.callS X0 hx (y := (⟨"wavecast/estimate/NewRunMapWavesPinLaw", "positive", "(I)I"⟩ : MethodName)) hown (mvT hZ (hw _ (List.mem_of_getElem? (i := 1) rfl))) (mvT hZ (hw _ (List.mem_of_getElem? (i := 2) rfl))) (mvT hZ (hw _ (List.mem_of_getElem? (i := 3) rfl))) (mvT hZ (hw _ (List.mem_of_getElem? (i := 4) rfl))) (by decide) (backOf (W := 0) (rm1 l Z a0 hw [] i1 h0 n0 O0 ) hZ (hw _ (List.mem_of_getElem? (i := 4) rfl)) (hw _ (List.mem_of_getElem? (i := 3) rfl)) (by decide) (by decide)) (g := (mkF m 18 #[.val (.long i0), .second, .val (.int i1), .val (.int i2), .val (.int i3), .val (.int i4), .val (.long inb), .second, .unset, .unset, .unset, .unset, .unset, .unset, .unset, .unset, .unset, .unset, .unset, .unset, .unset] [(.int i1)])) rfl (by rw [hml]; rfl) (argsL := [(.int i1)]) (rest := []) (lenOf pd_1 rfl) rfl (by show 2 * 0 + _ ≤ _; exact Nat.le_of_eq rfl) (hb hby at_18) (fun _ _ => ⟨rfl, e0, (by decide : 0 + 0 ≤ _), (by decide : 0 + 0 ≤ _)⟩)
    dsimp only [Pt.U, Pt.locs, Pt.cells, Pt.slots] at X9 l9 y9 z9 st9 hQ9
    subst l9 y9 z9
    obtain ⟨r_9, rfl, hr_9, Nq9, eh9⟩ := hQ9
    have N9 := Fr.app N0 Nq9
    refine Goes.step (B := T9.setTop (mkF m 21 #[.val (.long i0), .second, .val (.int i1), .val (.int i2), .val (.int i3), .val (.int i4), .val (.long inb), .second, .unset, .unset, .unset, .unset, .unset, .unset, .unset, .unset, .unset, .unset, .unset, .unset, .unset] [(.int r_9)])) st9 ?_
    refine Goes.step (B := T9.setTop (mkF m 23 #[.val (.long i0), .second, .val (.int i1), .val (.int i2), .val (.int i3), .val (.int i4), .val (.long inb), .second, .val (.int r_9), .unset, .unset, .unset, .unset, .unset, .unset, .unset, .unset, .unset, .unset, .unset, .unset] [])) (fun _ k => XS.istore X9.here hx rfl (hb hby at_21) rfl (l' := #[.val (.long i0), .second, .val (.int i1), .val (.int i2), .val (.int i3), .val (.int i4), .val (.long inb), .second, .val (.int r_9), .unset, .unset, .unset, .unset, .unset, .unset, .unset, .unset, .unset, .unset, .unset, .unset]) rfl k) ?_
    refine Goes.step (B := T9.setTop (mkF m 24 #[.val (.long i0), .second, .val (.int i1), .val (.int i2), .val (.int i3), .val (.int i4), .val (.long inb), .second, .val (.int r_9), .unset, .unset, .unset, .unset, .unset, .unset, .unset, .unset, .unset, .unset, .unset, .unset] [(.int i2)])) (fun _ k => XS.iloadN X9.here hx rfl (hb hby at_23) rfl k) ?_
    obtain ⟨_, _, ⟨T10, L10, k10, n10⟩, -, X10, ⟨Lc10, hQ10, l10, y10, z10⟩, st10⟩ := Jvm.LawKit.callS X9 hx (y := (⟨"wavecast/estimate/NewRunMapWavesPinLaw", "positive", "(I)I"⟩ : MethodName)) hown (mvT hZ (hw _ (List.mem_of_getElem? (i := 1) rfl))) (mvT hZ (hw _ (List.mem_of_getElem? (i := 2) rfl))) (mvT hZ (hw _ (List.mem_of_getElem? (i := 3) rfl))) (mvT hZ (hw _ (List.mem_of_getElem? (i := 4) rfl))) (by decide) (backOf (W := 0) (rm1 l Z a0 hw [] i2 h0 n0 O0 ) hZ (hw _ (List.mem_of_getElem? (i := 4) rfl)) (hw _ (List.mem_of_getElem? (i := 3) rfl)) (by decide) (by decide)) (g := (mkF m 24 #[.val (.long i0), .second, .val (.int i1), .val (.int i2), .val (.int i3), .val (.int i4), .val (.long inb), .second, .val (.int r_9), .unset, .unset, .unset, .unset, .unset, .unset, .unset, .unset, .unset, .unset, .unset, .unset] [(.int i2)])) rfl (by rw [hml]; rfl) (argsL := [(.int i2)]) (rest := []) (lenOf pd_1 rfl) rfl (by show 2 * 0 + _ ≤ _; exact Nat.le_of_eq rfl) (hb hby at_24) (fun _ _ => ⟨rfl, eh9, (by decide : 0 + 0 ≤ _), (by decide : 0 + 0 ≤ _)⟩)
    dsimp only [Pt.U, Pt.locs, Pt.cells, Pt.slots] at X10 l10 y10 z10 st10 hQ10
    subst l10 y10 z10
    obtain ⟨r_10, rfl, hr_10, Nq10, eh10⟩ := hQ10
    have N10 := Fr.app N9 Nq10
    refine Goes.step (B := T10.setTop (mkF m 27 #[.val (.long i0), .second, .val (.int i1), .val (.int i2), .val (.int i3), .val (.int i4), .val (.long inb), .second, .val (.int r_9), .unset, .unset, .unset, .unset, .unset, .unset, .unset, .unset, .unset, .unset, .unset, .unset] [(.int r_10)])) st10 ?_
    refine Goes.step (B := T10.setTop (mkF m 29 #[.val (.long i0), .second, .val (.int i1), .val (.int i2), .val (.int i3), .val (.int i4), .val (.long inb), .second, .val (.int r_9), .val (.int r_10), .unset, .unset, .unset, .unset, .unset, .unset, .unset, .unset, .unset, .unset, .unset] [])) (fun _ k => XS.istore X10.here hx rfl (hb hby at_27) rfl (l' := #[.val (.long i0), .second, .val (.int i1), .val (.int i2), .val (.int i3), .val (.int i4), .val (.long inb), .second, .val (.int r_9), .val (.int r_10), .unset, .unset, .unset, .unset, .unset, .unset, .unset, .unset, .unset, .unset, .unset]) rfl k) ?_
    refine Goes.step (B := T10.setTop (mkF m 31 #[.val (.long i0), .second, .val (.int i1), .val (.int i2), .val (.int i3), .val (.int i4), .val (.long inb), .second, .val (.int r_9), .val (.int r_10), .unset, .unset, .unset, .unset, .unset, .unset, .unset, .unset, .unset, .unset, .unset] [(.int i3)])) (fun _ k => XS.iload X10.here hx rfl (hb hby at_29) rfl k) ?_
    obtain ⟨_, _, ⟨T11, L11, k11, n11⟩, -, X11, ⟨Lc11, hQ11, l11, y11, z11⟩, st11⟩ := Jvm.LawKit.callS X10 hx (y := (⟨"wavecast/estimate/NewRunMapWavesPinLaw", "positive", "(I)I"⟩ : MethodName)) hown (mvT hZ (hw _ (List.mem_of_getElem? (i := 1) rfl))) (mvT hZ (hw _ (List.mem_of_getElem? (i := 2) rfl))) (mvT hZ (hw _ (List.mem_of_getElem? (i := 3) rfl))) (mvT hZ (hw _ (List.mem_of_getElem? (i := 4) rfl))) (by decide) (backOf (W := 0) (rm1 l Z a0 hw [] i3 h0 n0 O0 ) hZ (hw _ (List.mem_of_getElem? (i := 4) rfl)) (hw _ (List.mem_of_getElem? (i := 3) rfl)) (by decide) (by decide)) (g := (mkF m 31 #[.val (.long i0), .second, .val (.int i1), .val (.int i2), .val (.int i3), .val (.int i4), .val (.long inb), .second, .val (.int r_9), .val (.int r_10), .unset, .unset, .unset, .unset, .unset, .unset, .unset, .unset, .unset, .unset, .unset] [(.int i3)])) rfl (by rw [hml]; rfl) (argsL := [(.int i3)]) (rest := []) (lenOf pd_1 rfl) rfl (by show 2 * 0 + _ ≤ _; exact Nat.le_of_eq rfl) (hb hby at_31) (fun _ _ => ⟨rfl, eh10, (by decide : 0 + 0 ≤ _), (by decide : 0 + 0 ≤ _)⟩)
    dsimp only [Pt.U, Pt.locs, Pt.cells, Pt.slots] at X11 l11 y11 z11 st11 hQ11
    subst l11 y11 z11
    obtain ⟨r_11, rfl, hr_11, Nq11, eh11⟩ := hQ11
    have N11 := Fr.app N10 Nq11
    refine Goes.step (B := T11.setTop (mkF m 34 #[.val (.long i0), .second, .val (.int i1), .val (.int i2), .val (.int i3), .val (.int i4), .val (.long inb), .second, .val (.int r_9), .val (.int r_10), .unset, .unset, .unset, .unset, .unset, .unset, .unset, .unset, .unset, .unset, .unset] [(.int r_11)])) st11 ?_
    refine Goes.step (B := T11.setTop (mkF m 36 #[.val (.long i0), .second, .val (.int i1), .val (.int i2), .val (.int i3), .val (.int i4), .val (.long inb), .second, .val (.int r_9), .val (.int r_10), .val (.int r_11), .unset, .unset, .unset, .unset, .unset, .unset, .unset, .unset, .unset, .unset] [])) (fun _ k => XS.istore X11.here hx rfl (hb hby at_34) rfl (l' := #[.val (.long i0), .second, .val (.int i1), .val (.int i2), .val (.int i3), .val (.int i4), .val (.long inb), .second, .val (.int r_9), .val (.int r_10), .val (.int r_11), .unset, .unset, .unset, .unset, .unset, .unset, .unset, .unset, .unset, .unset]) rfl k) ?_
    refine Goes.step (B := T11.setTop (mkF m 38 #[.val (.long i0), .second, .val (.int i1), .val (.int i2), .val (.int i3), .val (.int i4), .val (.long inb), .second, .val (.int r_9), .val (.int r_10), .val (.int r_11), .unset, .unset, .unset, .unset, .unset, .unset, .unset, .unset, .unset, .unset] [(.int i4)])) (fun _ k => XS.iload X11.here hx rfl (hb hby at_36) rfl k) ?_
    obtain ⟨_, _, ⟨T12, L12, k12, n12⟩, -, X12, ⟨Lc12, hQ12, l12, y12, z12⟩, st12⟩ := Jvm.LawKit.callS X11 hx (y := (⟨"wavecast/estimate/NewRunMapWavesPinLaw", "positive", "(I)I"⟩ : MethodName)) hown (mvT hZ (hw _ (List.mem_of_getElem? (i := 1) rfl))) (mvT hZ (hw _ (List.mem_of_getElem? (i := 2) rfl))) (mvT hZ (hw _ (List.mem_of_getElem? (i := 3) rfl))) (mvT hZ (hw _ (List.mem_of_getElem? (i := 4) rfl))) (by decide) (backOf (W := 0) (rm1 l Z a0 hw [] i4 h0 n0 O0 ) hZ (hw _ (List.mem_of_getElem? (i := 4) rfl)) (hw _ (List.mem_of_getElem? (i := 3) rfl)) (by decide) (by decide)) (g := (mkF m 38 #[.val (.long i0), .second, .val (.int i1), .val (.int i2), .val (.int i3), .val (.int i4), .val (.long inb), .second, .val (.int r_9), .val (.int r_10), .val (.int r_11), .unset, .unset, .unset, .unset, .unset, .unset, .unset, .unset, .unset, .unset] [(.int i4)])) rfl (by rw [hml]; rfl) (argsL := [(.int i4)]) (rest := []) (lenOf pd_1 rfl) rfl (by show 2 * 0 + _ ≤ _; exact Nat.le_of_eq rfl) (hb hby at_38) (fun _ _ => ⟨rfl, eh11, (by decide : 0 + 0 ≤ _), (by decide : 0 + 0 ≤ _)⟩)
    dsimp only [Pt.U, Pt.locs, Pt.cells, Pt.slots] at X12 l12 y12 z12 st12 hQ12
    subst l12 y12 z12
    obtain ⟨r_12, rfl, hr_12, Nq12, eh12⟩ := hQ12
    have N12 := Fr.app N11 Nq12
    refine Goes.step (B := T12.setTop (mkF m 41 #[.val (.long i0), .second, .val (.int i1), .val (.int i2), .val (.int i3), .val (.int i4), .val (.long inb), .second, .val (.int r_9), .val (.int r_10), .val (.int r_11), .unset, .unset, .unset, .unset, .unset, .unset, .unset, .unset, .unset, .unset] [(.int r_12)])) st12 ?_
    refine Goes.step (B := T12.setTop (mkF m 43 #[.val (.long i0), .second, .val (.int i1), .val (.int i2), .val (.int i3), .val (.int i4), .val (.long inb), .second, .val (.int r_9), .val (.int r_10), .val (.int r_11), .val (.int r_12), .unset, .unset, .unset, .unset, .unset, .unset, .unset, .unset, .unset] [])) (fun _ k => XS.istore X12.here hx rfl (hb hby at_41) rfl (l' := #[.val (.long i0), .second, .val (.int i1), .val (.int i2), .val (.int i3), .val (.int i4), .val (.long inb), .second, .val (.int r_9), .val (.int r_10), .val (.int r_11), .val (.int r_12), .unset, .unset, .unset, .unset, .unset, .unset, .unset, .unset, .unset]) rfl k) ?_
    obtain ⟨T13, h13, X13, e13, E13, A13, D13, -, st13⟩ := newO X12 hx hZ hown (hw _ (List.mem_of_getElem? (i := 6) rfl)) (hw _ (List.mem_of_getElem? (i := 7) rfl)) (hw _ (List.mem_of_getElem? (i := 8) rfl)) eh12 (g := (mkF m 43 #[.val (.long i0), .second, .val (.int i1), .val (.int i2), .val (.int i3), .val (.int i4), .val (.long inb), .second, .val (.int r_9), .val (.int r_10), .val (.int r_11), .val (.int r_12), .unset, .unset, .unset, .unset, .unset, .unset, .unset, .unset, .unset] [])) rfl (hb hby at_43) (by decide) (by decide)
    obtain ⟨b13, g13⟩ : ∃ z, z = h0.size := ⟨_, rfl⟩
    rw [← g13] at A13 D13 st13
    have g_b13 : n0 ≤ b13 := Nat.le_trans (own_z O0) (Nat.le_of_eq g13.symm)
    have O_13 := O0.ext E13
    have F13_inputBytes : Fld Z h13 b13 "wavecast/estimate/NewRun" "inputBytes" "J" (.long (0 : Int64)) := D13 (Or.inr (hw _ (List.mem_of_getElem? (i := 21) rfl))) (ty := .long) (by decide)
    have F13_maps : Fld Z h13 b13 "wavecast/estimate/NewRun" "maps" "I" (.int (0 : Int32)) := D13 (Or.inr (hw _ (List.mem_of_getElem? (i := 23) rfl))) (ty := .int) (by decide)
    have F13_reduces : Fld Z h13 b13 "wavecast/estimate/NewRun" "reduces" "I" (.int (0 : Int32)) := D13 (Or.inr (hw _ (List.mem_of_getElem? (i := 25) rfl))) (ty := .int) (by decide)
    have F13_mapSlots : Fld Z h13 b13 "wavecast/estimate/NewRun" "mapSlots" "I" (.int (0 : Int32)) := D13 (Or.inr (hw _ (List.mem_of_getElem? (i := 27) rfl))) (ty := .int) (by decide)
    have F13_reduceSlots : Fld Z h13 b13 "wavecast/estimate/NewRun" "reduceSlots" "I" (.int (0 : Int32)) := D13 (Or.inr (hw _ (List.mem_of_getElem? (i := 29) rfl))) (ty := .int) (by decide)
    refine Goes.step (B := T13.setTop (mkF m 46 #[.val (.long i0), .second, .val (.int i1), .val (.int i2), .val (.int i3), .val (.int i4), .val (.long inb), .second, .val (.int r_9), .val (.int r_10), .val (.int r_11), .val (.int r_12), .unset, .unset, .unset, .unset, .unset, .unset, .unset, .unset, .unset] [(.ref b13)])) st13 ?_
    refine Goes.step (B := T13.setTop (mkF m 47 #[.val (.long i0), .second, .val (.int i1), .val (.int i2), .val (.int i3), .val (.int i4), .val (.long inb), .second, .val (.int r_9), .val (.int r_10), .val (.int r_11), .val (.int r_12), .unset, .unset, .unset, .unset, .unset, .unset, .unset, .unset, .unset] [(.ref b13), (.ref b13)])) (fun _ k => XS.dup X13.here hx rfl (hb hby at_46) rfl rfl k) ?_
    refine Goes.step (B := T13.setTop (mkF m 49 #[.val (.long i0), .second, .val (.int i1), .val (.int i2), .val (.int i3), .val (.int i4), .val (.long inb), .second, .val (.int r_9), .val (.int r_10), .val (.int r_11), .val (.int r_12), .unset, .unset, .unset, .unset, .unset, .unset, .unset, .unset, .unset] [(.long inb), (.ref b13), (.ref b13)])) (fun _ k => XS.lload X13.here hx rfl (hb hby at_47) rfl k) ?_
    refine Goes.step (B := T13.setTop (mkF m 51 #[.val (.long i0), .second, .val (.int i1), .val (.int i2), .val (.int i3), .val (.int i4), .val (.long inb), .second, .val (.int r_9), .val (.int r_10), .val (.int r_11), .val (.int r_12), .unset, .unset, .unset, .unset, .unset, .unset, .unset, .unset, .unset] [(.int r_9), (.long inb), (.ref b13), (.ref b13)])) (fun _ k => XS.iload X13.here hx rfl (hb hby at_49) rfl k) ?_
    refine Goes.step (B := T13.setTop (mkF m 53 #[.val (.long i0), .second, .val (.int i1), .val (.int i2), .val (.int i3), .val (.int i4), .val (.long inb), .second, .val (.int r_9), .val (.int r_10), .val (.int r_11), .val (.int r_12), .unset, .unset, .unset, .unset, .unset, .unset, .unset, .unset, .unset] [(.int r_10), (.int r_9), (.long inb), (.ref b13), (.ref b13)])) (fun _ k => XS.iload X13.here hx rfl (hb hby at_51) rfl k) ?_
    refine Goes.step (B := T13.setTop (mkF m 55 #[.val (.long i0), .second, .val (.int i1), .val (.int i2), .val (.int i3), .val (.int i4), .val (.long inb), .second, .val (.int r_9), .val (.int r_10), .val (.int r_11), .val (.int r_12), .unset, .unset, .unset, .unset, .unset, .unset, .unset, .unset, .unset] [(.int r_11), (.int r_10), (.int r_9), (.long inb), (.ref b13), (.ref b13)])) (fun _ k => XS.iload X13.here hx rfl (hb hby at_53) rfl k) ?_
    refine Goes.step (B := T13.setTop (mkF m 57 #[.val (.long i0), .second, .val (.int i1), .val (.int i2), .val (.int i3), .val (.int i4), .val (.long inb), .second, .val (.int r_9), .val (.int r_10), .val (.int r_11), .val (.int r_12), .unset, .unset, .unset, .unset, .unset, .unset, .unset, .unset, .unset] [(.int r_12), (.int r_11), (.int r_10), (.int r_9), (.long inb), (.ref b13), (.ref b13)])) (fun _ k => XS.iload X13.here hx rfl (hb hby at_55) rfl k) ?_
    obtain ⟨_, _, ⟨T14, L14, k14, n14⟩, -, X14, ⟨Lc14, hQ14, l14, y14, z14⟩, st14⟩ := X13.specialBack hx (y := (⟨"wavecast/estimate/NewRun", "<init>", "(JIIII)V"⟩ : MethodName)) rfl hown (mvT hZ (hw _ (List.mem_of_getElem? (i := 9) rfl))) (mvT hZ (hw _ (List.mem_of_getElem? (i := 10) rfl))) (mvT hZ (hw _ (List.mem_of_getElem? (i := 11) rfl))) (by decide) (backOf (W := 1) (rm2 l Z a0 hw [] b13 inb r_9 r_10 r_11 r_12 h13 n0 O_13 A13 g_b13 F13_inputBytes F13_maps F13_reduces F13_mapSlots F13_reduceSlots (own_posL hinb hc11_0) (own_lt hr_9) (own_lt hr_10) (own_lt hr_11) (own_lt hr_12)) hZ (hw _ (List.mem_of_getElem? (i := 11) rfl)) (hw _ (List.mem_of_getElem? (i := 8) rfl)) (by decide) (by decide)) (g := (mkF m 57 #[.val (.long i0), .second, .val (.int i1), .val (.int i2), .val (.int i3), .val (.int i4), .val (.long inb), .second, .val (.int r_9), .val (.int r_10), .val (.int r_11), .val (.int r_12), .unset, .unset, .unset, .unset, .unset, .unset, .unset, .unset, .unset] [(.int r_12), (.int r_11), (.int r_10), (.int r_9), (.long inb), (.ref b13), (.ref b13)])) rfl (by rw [hml]; rfl) (Steps.refl _) (a := b13) (argsL := [(.long inb), (.int r_9), (.int r_10), (.int r_11), (.int r_12)]) (rest := [(.ref b13)]) (lenOf pd_2 rfl) rfl (by show 2 * 0 + _ ≤ _; exact Nat.le_of_eq rfl) (hb hby at_57) (fun _ _ => ⟨rfl, e13, (by decide : 1 + 0 ≤ _), (by decide : 5 + 0 ≤ _)⟩)
    dsimp only [Pt.U, Pt.locs, Pt.cells, Pt.slots] at X14 l14 y14 z14 st14 hQ14
    subst l14 y14 z14
    obtain ⟨rfl, Nq14, Kp14, Ex14, Fc14_inputBytes, Fc14_maps, Fc14_reduces, Fc14_mapSlots, Fc14_reduceSlots⟩ := hQ14
    have O_14 := O_13.keep Kp14 (allS g_b13 all0)
    have N14 := Fr.app N12 Nq14
    refine Goes.via (B := T14.setTop (mkF m 60 #[.val (.long i0), .second, .val (.int i1), .val (.int i2), .val (.int i3), .val (.int i4), .val (.long inb), .second, .val (.int r_9), .val (.int r_10), .val (.int r_11), .val (.int r_12), .unset, .unset, .unset, .unset, .unset, .unset, .unset, .unset, .unset] [(.ref b13)])) st14 ?_
    refine Goes.step (B := T14.setTop (mkF m 62 #[.val (.long i0), .second, .val (.int i1), .val (.int i2), .val (.int i3), .val (.int i4), .val (.long inb), .second, .val (.int r_9), .val (.int r_10), .val (.int r_11), .val (.int r_12), .val (.ref b13), .unset, .unset, .unset, .unset, .unset, .unset, .unset, .unset] [])) (fun _ k => XS.astore X14.here hx rfl (hb hby at_60) rfl rfl (l' := #[.val (.long i0), .second, .val (.int i1), .val (.int i2), .val (.int i3), .val (.int i4), .val (.long inb), .second, .val (.int r_9), .val (.int r_10), .val (.int r_11), .val (.int r_12), .val (.ref b13), .unset, .unset, .unset, .unset, .unset, .unset, .unset, .unset]) rfl k) ?_
    refine Goes.step (B := T14.setTop (mkF m 64 #[.val (.long i0), .second, .val (.int i1), .val (.int i2), .val (.int i3), .val (.int i4), .val (.long inb), .second, .val (.int r_9), .val (.int r_10), .val (.int r_11), .val (.int r_12), .val (.ref b13), .unset, .unset, .unset, .unset, .unset, .unset, .unset, .unset] [(.ref b13)])) (fun _ k => XS.aload X14.here hx rfl (hb hby at_62) rfl rfl k) ?_
    obtain ⟨cq15, kq15, qa15, qb15, qc15⟩ := isOf hZ rfl Ex14
    obtain ⟨_, _, ⟨T15, L15, k15, n15⟩, -, X15, ⟨Lc15, hQ15, l15, y15, z15⟩, st15⟩ := X14.virtualBack hx (y := (⟨"wavecast/estimate/NewRun", "mapWaves", "()J"⟩ : MethodName)) (z := (⟨"wavecast/estimate/NewRun", "mapWaves", "()J"⟩ : MethodName)) hown (mvT hZ (hw _ (List.mem_of_getElem? (i := 30) rfl))) (mvT hZ (hw _ (List.mem_of_getElem? (i := 31) rfl))) (notFace_of_selects (args := #[]) (mvT hZ (hw _ (List.mem_of_getElem? (i := 33) rfl)))) (mvT hZ (hw _ (List.mem_of_getElem? (i := 33) rfl))) (mvT hZ (hw _ (List.mem_of_getElem? (i := 32) rfl))) (by decide) (backOf (W := 0) (rm5 l Z a0 hw [] b13 r_9 r_11 T14.heap n0 O_14 hr_11 Fc14_maps Fc14_mapSlots) hZ (hw _ (List.mem_of_getElem? (i := 34) rfl)) (hw _ (List.mem_of_getElem? (i := 8) rfl)) (by decide) (by decide)) qa15 qc15 (g := (mkF m 64 #[.val (.long i0), .second, .val (.int i1), .val (.int i2), .val (.int i3), .val (.int i4), .val (.long inb), .second, .val (.int r_9), .val (.int r_10), .val (.int r_11), .val (.int r_12), .val (.ref b13), .unset, .unset, .unset, .unset, .unset, .unset, .unset, .unset] [(.ref b13)])) rfl (by rw [hml]; rfl) (Steps.refl _) (argsL := []) (rest := []) (lenOf pd_3 rfl) rfl (by show 2 * 0 + _ ≤ _; exact Nat.le_of_eq rfl) (hb hby at_64) (fun _ _ => ⟨rfl, rfl, (by decide : 1 + 0 ≤ _), (by decide : 5 + 0 ≤ _)⟩)
    dsimp only [Pt.U, Pt.locs, Pt.cells, Pt.slots] at X15 l15 y15 z15 st15 hQ15
    subst l15 y15 z15
    obtain ⟨rfl, Nq15, eh15⟩ := hQ15
    have N15 := Fr.app N14 Nq15
    refine Goes.via (B := T15.setTop (mkF m 67 #[.val (.long i0), .second, .val (.int i1), .val (.int i2), .val (.int i3), .val (.int i4), .val (.long inb), .second, .val (.int r_9), .val (.int r_10), .val (.int r_11), .val (.int r_12), .val (.ref b13), .unset, .unset, .unset, .unset, .unset, .unset, .unset, .unset] [(.long ((((r_9.toInt64) - (1 : Int64)) / (r_11.toInt64)) + (1 : Int64)))])) st15 ?_
    obtain ⟨wv, hwv⟩ : ∃ z, z = ((((r_9.toInt64) - (1 : Int64)) / (r_11.toInt64)) + (1 : Int64)) := ⟨_, rfl⟩
    rw [← hwv]
    obtain ⟨hb1, hb2, hb3, hb4⟩ := own_w hwv hr_9 hr_11
    refine Goes.step (B := T15.setTop (mkF m 69 #[.val (.long i0), .second, .val (.int i1), .val (.int i2), .val (.int i3), .val (.int i4), .val (.long inb), .second, .val (.int r_9), .val (.int r_10), .val (.int r_11), .val (.int r_12), .val (.ref b13), .val (.long wv), .second, .unset, .unset, .unset, .unset, .unset, .unset] [])) (fun _ k => XS.lstore X15.here hx rfl (hb hby at_67) rfl (l' := #[.val (.long i0), .second, .val (.int i1), .val (.int i2), .val (.int i3), .val (.int i4), .val (.long inb), .second, .val (.int r_9), .val (.int r_10), .val (.int r_11), .val (.int r_12), .val (.ref b13), .val (.long wv), .second, .unset, .unset, .unset, .unset, .unset, .unset]) rfl k) ?_
    refine Goes.step (B := T15.setTop (mkF m 71 #[.val (.long i0), .second, .val (.int i1), .val (.int i2), .val (.int i3), .val (.int i4), .val (.long inb), .second, .val (.int r_9), .val (.int r_10), .val (.int r_11), .val (.int r_12), .val (.ref b13), .val (.long wv), .second, .unset, .unset, .unset, .unset, .unset, .unset] [(.long wv)])) (fun _ k => XS.lload X15.here hx rfl (hb hby at_69) rfl k) ?_
    refine Goes.step (B := T15.setTop (mkF m 72 #[.val (.long i0), .second, .val (.int i1), .val (.int i2), .val (.int i3), .val (.int i4), .val (.long inb), .second, .val (.int r_9), .val (.int r_10), .val (.int r_11), .val (.int r_12), .val (.ref b13), .val (.long wv), .second, .unset, .unset, .unset, .unset, .unset, .unset] [(.long (1 : Int64)), (.long wv)])) (fun _ k => XS.lconst X15.here hx rfl (hb hby at_71) k) ?_
    refine Goes.step (B := T15.setTop (mkF m 73 #[.val (.long i0), .second, .val (.int i1), .val (.int i2), .val (.int i3), .val (.int i4), .val (.long inb), .second, .val (.int r_9), .val (.int r_10), .val (.int r_11), .val (.int r_12), .val (.ref b13), .val (.long wv), .second, .unset, .unset, .unset, .unset, .unset, .unset] [(.int (lcmpW wv (1 : Int64)))])) (fun _ k => XS.lcmp X15.here hx rfl (hb hby at_72) rfl k) ?_
    refine Goes.step (B := T15.setTop (mkF m 78 #[.val (.long i0), .second, .val (.int i1), .val (.int i2), .val (.int i3), .val (.int i4), .val (.long inb), .second, .val (.int r_9), .val (.int r_10), .val (.int r_11), .val (.int r_12), .val (.ref b13), .val (.long wv), .second, .unset, .unset, .unset, .unset, .unset, .unset] [])) (fun _ k => XS.ifYes X15.here hx rfl (pc0 := 73) (pc' := 78) rfl (hb hby at_73) rfl ((if0 _ _).trans (flt (fun q => hb1 ((lw_lt _ _).mp q))).2.1) (by decide) (by decide) k) ?_
    refine Goes.step (B := T15.setTop (mkF m 80 #[.val (.long i0), .second, .val (.int i1), .val (.int i2), .val (.int i3), .val (.int i4), .val (.long inb), .second, .val (.int r_9), .val (.int r_10), .val (.int r_11), .val (.int r_12), .val (.ref b13), .val (.long wv), .second, .unset, .unset, .unset, .unset, .unset, .unset] [(.long wv)])) (fun _ k => XS.lload X15.here hx rfl (hb hby at_78) rfl k) ?_
    refine Goes.step (B := T15.setTop (mkF m 83 #[.val (.long i0), .second, .val (.int i1), .val (.int i2), .val (.int i3), .val (.int i4), .val (.long inb), .second, .val (.int r_9), .val (.int r_10), .val (.int r_11), .val (.int r_12), .val (.ref b13), .val (.long wv), .second, .unset, .unset, .unset, .unset, .unset, .unset] [(.long (2147483647 : Int64)), (.long wv)])) (X15.ldc2Long hx hown (mvT hZ (hw _ (List.mem_of_getElem? (i := 35) rfl))) (g := (mkF m 80 #[.val (.long i0), .second, .val (.int i1), .val (.int i2), .val (.int i3), .val (.int i4), .val (.long inb), .second, .val (.int r_9), .val (.int r_10), .val (.int r_11), .val (.int r_12), .val (.ref b13), .val (.long wv), .second, .unset, .unset, .unset, .unset, .unset, .unset] [(.long wv)])) rfl (hb hby at_80)) ?_
    refine Goes.step (B := T15.setTop (mkF m 84 #[.val (.long i0), .second, .val (.int i1), .val (.int i2), .val (.int i3), .val (.int i4), .val (.long inb), .second, .val (.int r_9), .val (.int r_10), .val (.int r_11), .val (.int r_12), .val (.ref b13), .val (.long wv), .second, .unset, .unset, .unset, .unset, .unset, .unset] [(.int (lcmpW wv (2147483647 : Int64)))])) (fun _ k => XS.lcmp X15.here hx rfl (hb hby at_83) rfl k) ?_
    refine Goes.step (B := T15.setTop (mkF m 89 #[.val (.long i0), .second, .val (.int i1), .val (.int i2), .val (.int i3), .val (.int i4), .val (.long inb), .second, .val (.int r_9), .val (.int r_10), .val (.int r_11), .val (.int r_12), .val (.ref b13), .val (.long wv), .second, .unset, .unset, .unset, .unset, .unset, .unset] [])) (fun _ k => XS.ifYes X15.here hx rfl (pc0 := 84) (pc' := 89) rfl (hb hby at_84) rfl ((if0 _ _).trans (flt (fun q => hb2 ((lw_gt _ _).mp q))).2.2.2) (by decide) (by decide) k) ?_
    refine Goes.step (B := T15.setTop (mkF m 91 #[.val (.long i0), .second, .val (.int i1), .val (.int i2), .val (.int i3), .val (.int i4), .val (.long inb), .second, .val (.int r_9), .val (.int r_10), .val (.int r_11), .val (.int r_12), .val (.ref b13), .val (.long wv), .second, .unset, .unset, .unset, .unset, .unset, .unset] [(.int r_11)])) (fun _ k => XS.iload X15.here hx rfl (hb hby at_89) rfl k) ?_
    refine Goes.step (B := T15.setTop (mkF m 92 #[.val (.long i0), .second, .val (.int i1), .val (.int i2), .val (.int i3), .val (.int i4), .val (.long inb), .second, .val (.int r_9), .val (.int r_10), .val (.int r_11), .val (.int r_12), .val (.ref b13), .val (.long wv), .second, .unset, .unset, .unset, .unset, .unset, .unset] [(.long (r_11.toInt64))])) (fun _ k => XS.i2l X15.here hx rfl (hb hby at_91) rfl k) ?_
    refine Goes.step (B := T15.setTop (mkF m 94 #[.val (.long i0), .second, .val (.int i1), .val (.int i2), .val (.int i3), .val (.int i4), .val (.long inb), .second, .val (.int r_9), .val (.int r_10), .val (.int r_11), .val (.int r_12), .val (.ref b13), .val (.long wv), .second, .val (.long (r_11.toInt64)), .second, .unset, .unset, .unset, .unset] [])) (fun _ k => XS.lstore X15.here hx rfl (hb hby at_92) rfl (l' := #[.val (.long i0), .second, .val (.int i1), .val (.int i2), .val (.int i3), .val (.int i4), .val (.long inb), .second, .val (.int r_9), .val (.int r_10), .val (.int r_11), .val (.int r_12), .val (.ref b13), .val (.long wv), .second, .val (.long (r_11.toInt64)), .second, .unset, .unset, .unset, .unset]) rfl k) ?_
    refine Goes.step (B := T15.setTop (mkF m 96 #[.val (.long i0), .second, .val (.int i1), .val (.int i2), .val (.int i3), .val (.int i4), .val (.long inb), .second, .val (.int r_9), .val (.int r_10), .val (.int r_11), .val (.int r_12), .val (.ref b13), .val (.long wv), .second, .val (.long (r_11.toInt64)), .second, .unset, .unset, .unset, .unset] [(.int r_9)])) (fun _ k => XS.iload X15.here hx rfl (hb hby at_94) rfl k) ?_
    refine Goes.step (B := T15.setTop (mkF m 97 #[.val (.long i0), .second, .val (.int i1), .val (.int i2), .val (.int i3), .val (.int i4), .val (.long inb), .second, .val (.int r_9), .val (.int r_10), .val (.int r_11), .val (.int r_12), .val (.ref b13), .val (.long wv), .second, .val (.long (r_11.toInt64)), .second, .unset, .unset, .unset, .unset] [(.long (r_9.toInt64))])) (fun _ k => XS.i2l X15.here hx rfl (hb hby at_96) rfl k) ?_
    refine Goes.step (B := T15.setTop (mkF m 99 #[.val (.long i0), .second, .val (.int i1), .val (.int i2), .val (.int i3), .val (.int i4), .val (.long inb), .second, .val (.int r_9), .val (.int r_10), .val (.int r_11), .val (.int r_12), .val (.ref b13), .val (.long wv), .second, .val (.long (r_11.toInt64)), .second, .val (.long (r_9.toInt64)), .second, .unset, .unset] [])) (fun _ k => XS.lstore X15.here hx rfl (hb hby at_97) rfl (l' := #[.val (.long i0), .second, .val (.int i1), .val (.int i2), .val (.int i3), .val (.int i4), .val (.long inb), .second, .val (.int r_9), .val (.int r_10), .val (.int r_11), .val (.int r_12), .val (.ref b13), .val (.long wv), .second, .val (.long (r_11.toInt64)), .second, .val (.long (r_9.toInt64)), .second, .unset, .unset]) rfl k) ?_
    refine Goes.step (B := T15.setTop (mkF m 101 #[.val (.long i0), .second, .val (.int i1), .val (.int i2), .val (.int i3), .val (.int i4), .val (.long inb), .second, .val (.int r_9), .val (.int r_10), .val (.int r_11), .val (.int r_12), .val (.ref b13), .val (.long wv), .second, .val (.long (r_11.toInt64)), .second, .val (.long (r_9.toInt64)), .second, .unset, .unset] [(.long (r_9.toInt64))])) (fun _ k => XS.lload X15.here hx rfl (hb hby at_99) rfl k) ?_
    refine Goes.step (B := T15.setTop (mkF m 103 #[.val (.long i0), .second, .val (.int i1), .val (.int i2), .val (.int i3), .val (.int i4), .val (.long inb), .second, .val (.int r_9), .val (.int r_10), .val (.int r_11), .val (.int r_12), .val (.ref b13), .val (.long wv), .second, .val (.long (r_11.toInt64)), .second, .val (.long (r_9.toInt64)), .second, .unset, .unset] [(.long wv), (.long (r_9.toInt64))])) (fun _ k => XS.lload X15.here hx rfl (hb hby at_101) rfl k) ?_
    refine Goes.step (B := T15.setTop (mkF m 105 #[.val (.long i0), .second, .val (.int i1), .val (.int i2), .val (.int i3), .val (.int i4), .val (.long inb), .second, .val (.int r_9), .val (.int r_10), .val (.int r_11), .val (.int r_12), .val (.ref b13), .val (.long wv), .second, .val (.long (r_11.toInt64)), .second, .val (.long (r_9.toInt64)), .second, .unset, .unset] [(.long (r_11.toInt64)), (.long wv), (.long (r_9.toInt64))])) (fun _ k => XS.lload X15.here hx rfl (hb hby at_103) rfl k) ?_
    refine Goes.step (B := T15.setTop (mkF m 106 #[.val (.long i0), .second, .val (.int i1), .val (.int i2), .val (.int i3), .val (.int i4), .val (.long inb), .second, .val (.int r_9), .val (.int r_10), .val (.int r_11), .val (.int r_12), .val (.ref b13), .val (.long wv), .second, .val (.long (r_11.toInt64)), .second, .val (.long (r_9.toInt64)), .second, .unset, .unset] [(.long (wv * (r_11.toInt64))), (.long (r_9.toInt64))])) (fun _ k => XS.lmul X15.here hx rfl (hb hby at_105) rfl k) ?_
    refine Goes.step (B := T15.setTop (mkF m 107 #[.val (.long i0), .second, .val (.int i1), .val (.int i2), .val (.int i3), .val (.int i4), .val (.long inb), .second, .val (.int r_9), .val (.int r_10), .val (.int r_11), .val (.int r_12), .val (.ref b13), .val (.long wv), .second, .val (.long (r_11.toInt64)), .second, .val (.long (r_9.toInt64)), .second, .unset, .unset] [(.int (lcmpW (r_9.toInt64) (wv * (r_11.toInt64))))])) (fun _ k => XS.lcmp X15.here hx rfl (hb hby at_106) rfl k) ?_
    refine Goes.step (B := T15.setTop (mkF m 110 #[.val (.long i0), .second, .val (.int i1), .val (.int i2), .val (.int i3), .val (.int i4), .val (.long inb), .second, .val (.int r_9), .val (.int r_10), .val (.int r_11), .val (.int r_12), .val (.ref b13), .val (.long wv), .second, .val (.long (r_11.toInt64)), .second, .val (.long (r_9.toInt64)), .second, .unset, .unset] [])) (fun _ k => XS.ifNo X15.here hx rfl (hb hby at_107) rfl ((if0 _ _).trans (flt (fun q => hb3 ((lw_gt _ _).mp q))).2.2.1) k) ?_
    refine Goes.step (B := T15.setTop (mkF m 111 #[.val (.long i0), .second, .val (.int i1), .val (.int i2), .val (.int i3), .val (.int i4), .val (.long inb), .second, .val (.int r_9), .val (.int r_10), .val (.int r_11), .val (.int r_12), .val (.ref b13), .val (.long wv), .second, .val (.long (r_11.toInt64)), .second, .val (.long (r_9.toInt64)), .second, .unset, .unset] [(.int (1 : Int32))])) (fun _ k => XS.iconst X15.here hx rfl (hb hby at_110) k) ?_
    refine Goes.step (B := T15.setTop (mkF m 115 #[.val (.long i0), .second, .val (.int i1), .val (.int i2), .val (.int i3), .val (.int i4), .val (.long inb), .second, .val (.int r_9), .val (.int r_10), .val (.int r_11), .val (.int r_12), .val (.ref b13), .val (.long wv), .second, .val (.long (r_11.toInt64)), .second, .val (.long (r_9.toInt64)), .second, .unset, .unset] [(.int (1 : Int32))])) (fun _ k => XS.goto X15.here hx rfl (pc0 := 111) (pc' := 115) rfl (hb hby at_111) (by decide) (by decide) k) ?_
    refine Goes.step (B := T15.setTop (mkF m 117 #[.val (.long i0), .second, .val (.int i1), .val (.int i2), .val (.int i3), .val (.int i4), .val (.long inb), .second, .val (.int r_9), .val (.int r_10), .val (.int r_11), .val (.int r_12), .val (.ref b13), .val (.long wv), .second, .val (.long (r_11.toInt64)), .second, .val (.long (r_9.toInt64)), .second, .val (.int (1 : Int32)), .unset] [])) (fun _ k => XS.istore X15.here hx rfl (hb hby at_115) rfl (l' := #[.val (.long i0), .second, .val (.int i1), .val (.int i2), .val (.int i3), .val (.int i4), .val (.long inb), .second, .val (.int r_9), .val (.int r_10), .val (.int r_11), .val (.int r_12), .val (.ref b13), .val (.long wv), .second, .val (.long (r_11.toInt64)), .second, .val (.long (r_9.toInt64)), .second, .val (.int (1 : Int32)), .unset]) rfl k) ?_
    refine Goes.step (B := T15.setTop (mkF m 119 #[.val (.long i0), .second, .val (.int i1), .val (.int i2), .val (.int i3), .val (.int i4), .val (.long inb), .second, .val (.int r_9), .val (.int r_10), .val (.int r_11), .val (.int r_12), .val (.ref b13), .val (.long wv), .second, .val (.long (r_11.toInt64)), .second, .val (.long (r_9.toInt64)), .second, .val (.int (1 : Int32)), .unset] [(.long wv)])) (fun _ k => XS.lload X15.here hx rfl (hb hby at_117) rfl k) ?_
    refine Goes.step (B := T15.setTop (mkF m 120 #[.val (.long i0), .second, .val (.int i1), .val (.int i2), .val (.int i3), .val (.int i4), .val (.long inb), .second, .val (.int r_9), .val (.int r_10), .val (.int r_11), .val (.int r_12), .val (.ref b13), .val (.long wv), .second, .val (.long (r_11.toInt64)), .second, .val (.long (r_9.toInt64)), .second, .val (.int (1 : Int32)), .unset] [(.long (1 : Int64)), (.long wv)])) (fun _ k => XS.lconst X15.here hx rfl (hb hby at_119) k) ?_
    refine Goes.step (B := T15.setTop (mkF m 121 #[.val (.long i0), .second, .val (.int i1), .val (.int i2), .val (.int i3), .val (.int i4), .val (.long inb), .second, .val (.int r_9), .val (.int r_10), .val (.int r_11), .val (.int r_12), .val (.ref b13), .val (.long wv), .second, .val (.long (r_11.toInt64)), .second, .val (.long (r_9.toInt64)), .second, .val (.int (1 : Int32)), .unset] [(.long (wv - (1 : Int64)))])) (fun _ k => XS.lsub X15.here hx rfl (hb hby at_120) rfl k) ?_
    refine Goes.step (B := T15.setTop (mkF m 123 #[.val (.long i0), .second, .val (.int i1), .val (.int i2), .val (.int i3), .val (.int i4), .val (.long inb), .second, .val (.int r_9), .val (.int r_10), .val (.int r_11), .val (.int r_12), .val (.ref b13), .val (.long wv), .second, .val (.long (r_11.toInt64)), .second, .val (.long (r_9.toInt64)), .second, .val (.int (1 : Int32)), .unset] [(.long (r_11.toInt64)), (.long (wv - (1 : Int64)))])) (fun _ k => XS.lload X15.here hx rfl (hb hby at_121) rfl k) ?_
    refine Goes.step (B := T15.setTop (mkF m 124 #[.val (.long i0), .second, .val (.int i1), .val (.int i2), .val (.int i3), .val (.int i4), .val (.long inb), .second, .val (.int r_9), .val (.int r_10), .val (.int r_11), .val (.int r_12), .val (.ref b13), .val (.long wv), .second, .val (.long (r_11.toInt64)), .second, .val (.long (r_9.toInt64)), .second, .val (.int (1 : Int32)), .unset] [(.long ((wv - (1 : Int64)) * (r_11.toInt64)))])) (fun _ k => XS.lmul X15.here hx rfl (hb hby at_123) rfl k) ?_
    refine Goes.step (B := T15.setTop (mkF m 126 #[.val (.long i0), .second, .val (.int i1), .val (.int i2), .val (.int i3), .val (.int i4), .val (.long inb), .second, .val (.int r_9), .val (.int r_10), .val (.int r_11), .val (.int r_12), .val (.ref b13), .val (.long wv), .second, .val (.long (r_11.toInt64)), .second, .val (.long (r_9.toInt64)), .second, .val (.int (1 : Int32)), .unset] [(.long (r_9.toInt64)), (.long ((wv - (1 : Int64)) * (r_11.toInt64)))])) (fun _ k => XS.lload X15.here hx rfl (hb hby at_124) rfl k) ?_
    refine Goes.step (B := T15.setTop (mkF m 127 #[.val (.long i0), .second, .val (.int i1), .val (.int i2), .val (.int i3), .val (.int i4), .val (.long inb), .second, .val (.int r_9), .val (.int r_10), .val (.int r_11), .val (.int r_12), .val (.ref b13), .val (.long wv), .second, .val (.long (r_11.toInt64)), .second, .val (.long (r_9.toInt64)), .second, .val (.int (1 : Int32)), .unset] [(.int (lcmpW ((wv - (1 : Int64)) * (r_11.toInt64)) (r_9.toInt64)))])) (fun _ k => XS.lcmp X15.here hx rfl (hb hby at_126) rfl k) ?_
    refine Goes.step (B := T15.setTop (mkF m 130 #[.val (.long i0), .second, .val (.int i1), .val (.int i2), .val (.int i3), .val (.int i4), .val (.long inb), .second, .val (.int r_9), .val (.int r_10), .val (.int r_11), .val (.int r_12), .val (.ref b13), .val (.long wv), .second, .val (.long (r_11.toInt64)), .second, .val (.long (r_9.toInt64)), .second, .val (.int (1 : Int32)), .unset] [])) (fun _ k => XS.ifNo X15.here hx rfl (hb hby at_127) rfl ((if0 _ _).trans (tlt ((lw_lt _ _).mpr hb4)).2.1) k) ?_
    refine Goes.step (B := T15.setTop (mkF m 131 #[.val (.long i0), .second, .val (.int i1), .val (.int i2), .val (.int i3), .val (.int i4), .val (.long inb), .second, .val (.int r_9), .val (.int r_10), .val (.int r_11), .val (.int r_12), .val (.ref b13), .val (.long wv), .second, .val (.long (r_11.toInt64)), .second, .val (.long (r_9.toInt64)), .second, .val (.int (1 : Int32)), .unset] [(.int (1 : Int32))])) (fun _ k => XS.iconst X15.here hx rfl (hb hby at_130) k) ?_
    refine Goes.step (B := T15.setTop (mkF m 135 #[.val (.long i0), .second, .val (.int i1), .val (.int i2), .val (.int i3), .val (.int i4), .val (.long inb), .second, .val (.int r_9), .val (.int r_10), .val (.int r_11), .val (.int r_12), .val (.ref b13), .val (.long wv), .second, .val (.long (r_11.toInt64)), .second, .val (.long (r_9.toInt64)), .second, .val (.int (1 : Int32)), .unset] [(.int (1 : Int32))])) (fun _ k => XS.goto X15.here hx rfl (pc0 := 131) (pc' := 135) rfl (hb hby at_131) (by decide) (by decide) k) ?_
    refine Goes.step (B := T15.setTop (mkF m 137 #[.val (.long i0), .second, .val (.int i1), .val (.int i2), .val (.int i3), .val (.int i4), .val (.long inb), .second, .val (.int r_9), .val (.int r_10), .val (.int r_11), .val (.int r_12), .val (.ref b13), .val (.long wv), .second, .val (.long (r_11.toInt64)), .second, .val (.long (r_9.toInt64)), .second, .val (.int (1 : Int32)), .val (.int (1 : Int32))] [])) (fun _ k => XS.istore X15.here hx rfl (hb hby at_135) rfl (l' := #[.val (.long i0), .second, .val (.int i1), .val (.int i2), .val (.int i3), .val (.int i4), .val (.long inb), .second, .val (.int r_9), .val (.int r_10), .val (.int r_11), .val (.int r_12), .val (.ref b13), .val (.long wv), .second, .val (.long (r_11.toInt64)), .second, .val (.long (r_9.toInt64)), .second, .val (.int (1 : Int32)), .val (.int (1 : Int32))]) rfl k) ?_
    refine Goes.step (B := T15.setTop (mkF m 139 #[.val (.long i0), .second, .val (.int i1), .val (.int i2), .val (.int i3), .val (.int i4), .val (.long inb), .second, .val (.int r_9), .val (.int r_10), .val (.int r_11), .val (.int r_12), .val (.ref b13), .val (.long wv), .second, .val (.long (r_11.toInt64)), .second, .val (.long (r_9.toInt64)), .second, .val (.int (1 : Int32)), .val (.int (1 : Int32))] [(.int (1 : Int32))])) (fun _ k => XS.iload X15.here hx rfl (hb hby at_137) rfl k) ?_
    refine Goes.step (B := T15.setTop (mkF m 142 #[.val (.long i0), .second, .val (.int i1), .val (.int i2), .val (.int i3), .val (.int i4), .val (.long inb), .second, .val (.int r_9), .val (.int r_10), .val (.int r_11), .val (.int r_12), .val (.ref b13), .val (.long wv), .second, .val (.long (r_11.toInt64)), .second, .val (.long (r_9.toInt64)), .second, .val (.int (1 : Int32)), .val (.int (1 : Int32))] [])) (fun _ k => XS.ifNo X15.here hx rfl (hb hby at_139) rfl ((if0 _ _).trans (feq (by decide)).1) k) ?_
    refine Goes.step (B := T15.setTop (mkF m 144 #[.val (.long i0), .second, .val (.int i1), .val (.int i2), .val (.int i3), .val (.int i4), .val (.long inb), .second, .val (.int r_9), .val (.int r_10), .val (.int r_11), .val (.int r_12), .val (.ref b13), .val (.long wv), .second, .val (.long (r_11.toInt64)), .second, .val (.long (r_9.toInt64)), .second, .val (.int (1 : Int32)), .val (.int (1 : Int32))] [(.int (1 : Int32))])) (fun _ k => XS.iload X15.here hx rfl (hb hby at_142) rfl k) ?_
    refine Goes.step (B := T15.setTop (mkF m 147 #[.val (.long i0), .second, .val (.int i1), .val (.int i2), .val (.int i3), .val (.int i4), .val (.long inb), .second, .val (.int r_9), .val (.int r_10), .val (.int r_11), .val (.int r_12), .val (.ref b13), .val (.long wv), .second, .val (.long (r_11.toInt64)), .second, .val (.long (r_9.toInt64)), .second, .val (.int (1 : Int32)), .val (.int (1 : Int32))] [])) (fun _ k => XS.ifNo X15.here hx rfl (hb hby at_144) rfl ((if0 _ _).trans (feq (by decide)).1) k) ?_
    refine Goes.step (B := T15.setTop (mkF m 148 #[.val (.long i0), .second, .val (.int i1), .val (.int i2), .val (.int i3), .val (.int i4), .val (.long inb), .second, .val (.int r_9), .val (.int r_10), .val (.int r_11), .val (.int r_12), .val (.ref b13), .val (.long wv), .second, .val (.long (r_11.toInt64)), .second, .val (.long (r_9.toInt64)), .second, .val (.int (1 : Int32)), .val (.int (1 : Int32))] [(.int (1 : Int32))])) (fun _ k => XS.iconst X15.here hx rfl (hb hby at_147) k) ?_
    refine Goes.step (B := T15.setTop (mkF m 152 #[.val (.long i0), .second, .val (.int i1), .val (.int i2), .val (.int i3), .val (.int i4), .val (.long inb), .second, .val (.int r_9), .val (.int r_10), .val (.int r_11), .val (.int r_12), .val (.ref b13), .val (.long wv), .second, .val (.long (r_11.toInt64)), .second, .val (.long (r_9.toInt64)), .second, .val (.int (1 : Int32)), .val (.int (1 : Int32))] [(.int (1 : Int32))])) (fun _ k => XS.goto X15.here hx rfl (pc0 := 148) (pc' := 152) rfl (hb hby at_148) (by decide) (by decide) k) ?_
    exact Goes.retN X15 hx eh15 (t := .boolean) Bd.returns (by simp) hlk (hb hby at_152) (by decide) (by decide) (⟨rfl, N15⟩)
set_option maxRecDepth 65536 in
set_option maxHeartbeats 40000000 in
theorem comes_1 {Post : Tables → Env → Array Value → State → Outcome → State → Prop} (hpost : ∀ tb e args s v u, (limb_1_1.after args s (.returned v) u = true ∧ limb_1_2.after args s (.returned v) u = true ∧ True) → FrameEnd s (.returned v) u (Jvm.fieldLocs frame_1_writes args s ++ Jvm.arrayLocs frame_1_arrays args s ++ Jvm.staticLocs frame_1_statics s) 16 128 → Post tb e args s (.returned v) u) :
    ArmFor flags0 classFile x code maxLocals ret World_1 tables_1 room_1 Calls_1 rest_1 Pre_1 Post := by
  intro l hfl _ _ p e ha hc hk s m args below hf hA hF happ hP
  obtain ⟨hcalls, hrest, hpre⟩ := hP
  obtain ⟨-, -, -, hnamed, -, -, -, hat⟩ := (Spec.applies_iff hf).mp happ
  obtain ⟨hg, hn⟩ := and_e (Cond.before_iff.mp (show (Jvm.Cond.and given_1 narrow_1).before args s = true from hpre))
  obtain ⟨hcount, hg⟩ := and_e hg
  obtain ⟨w0, w1, w2, w3, w4, rfl⟩ : ∃ w0 w1 w2 w3 w4 : Value, args = #[w0, w1, w2, w3, w4] := by
    have hs : args.size = 5 := by simpa [Cond.value, given_1] using hcount
    obtain ⟨L⟩ := args
    match L, hs with
    | [w0, w1, w2, w3, w4], _ => exact ⟨w0, w1, w2, w3, w4, rfl⟩
  have hw := fun d (hd : d ∈ tables_1) => atoms_spec (ws := Jvm.Cond.code x code maxLocals ret :: tables_1) hat d (List.mem_cons_of_mem _ hd)
  have hfit : Fit s := fun {y c} hc i hi => by
    obtain ⟨ha, rfl⟩ := Array.getElem?_eq_some_iff.mp hc
    have q := List.all_eq_true.mp ((Array.all_eq_true_iff_forall_mem.mp hF) _ (Array.getElem_mem ha)) i (List.mem_range.mpr hi)
    simpa [Array.getElem?_eq_getElem hi] using q
  obtain ⟨hi0, hg0⟩ := and_e hg
  obtain ⟨i0, ei0⟩ := isL_v hi0
  obtain rfl : w0 = (.long i0) := Option.some.inj ei0
  obtain ⟨hi1, hg1⟩ := and_e hg0
  obtain ⟨i1, ei1⟩ := is_v hi1
  obtain rfl : w1 = (.int i1) := Option.some.inj ei1
  obtain ⟨hi2, hg2⟩ := and_e hg1
  obtain ⟨i2, ei2⟩ := is_v hi2
  obtain rfl : w2 = (.int i2) := Option.some.inj ei2
  obtain ⟨hi3, hg3⟩ := and_e hg2
  obtain ⟨i3, ei3⟩ := is_v hi3
  obtain rfl : w3 = (.int i3) := Option.some.inj ei3
  obtain ⟨i4, ei4⟩ := is_v hg3
  obtain rfl : w4 = (.int i4) := Option.some.inj ei4
  obtain ⟨n, o, h1, h2, h3, _, L, rfl, ⟨rfl, N⟩, hq⟩ := rm0 l s _ hw tables_1 i0 i1 i2 i3 i4 s.heap s.heap.size (Old.start s)  p e ha hc hk s m _ below hf ((Spec.applies_iff_loose hf).mp happ).1 ⟨rfl, State.Warmed39.refl s, rfl⟩ trivial
  refine ⟨n, _, h1, h2, h3, hpost _ _ _ _ _ _ ⟨Cond.after_iff.mpr rfl, Cond.after_iff.mpr (eq_i res_at (Term.int_eval (1)) rfl), trivial⟩ ⟨hq.1, hq.2.1, (hq.2.2.sift fun y hy => Or.inr (N y hy)).mono (by decide) (by decide)⟩⟩
theorem main_1_1 : Claimed_1_1 := comes_1 fun _ _ _ _ _ _ h hF => ⟨h.1, hF⟩
theorem main_1_2 : Claimed_1_2 := comes_1 fun _ _ _ _ _ _ h hF => ⟨h.2.1, hF⟩
end Jvm.Pilot.@@N@@
namespace Jvm.Pilot.@@N@@
open Jvm Jvm.ClassFile Sem Op Lib Jvm.Free Jvm.Stand Jvm.Pilot.@@N@@.Jvm.D
/-! MADE BY PROGRAM (witnessworld.py) out of the Statement's table words and the real class files: 10 classes; the members and pool entries that the words name. The judged class is class 1, her method 2. -/
namespace start1
open Jvm.ClassFile
def u (s : String) : CpInfo := .utf8 (stringToUtf16 s)
/-- a pool by its gaps: so many unusable entries, then the entry; so many at the end -/
def gap : Nat → List CpInfo → List CpInfo
  | 0, r => r
  | n + 1, r => .unusable :: gap n r
def poolList (es : List (Nat × CpInfo)) (last : Nat) : List CpInfo := es.foldr (fun e r => gap e.1 (e.2 :: r)) (gap last [])
def pool (es : List (Nat × CpInfo)) (last : Nat) : Array CpInfo := ⟨poolList es last⟩
def fileOf (pool : Array CpInfo) (this : Nat) (attrs : Array Attribute := #[]) (ms : Array MethodInfo := #[]) (fl : Nat := 33) (sup : Nat := 0) (ifs : Array Nat := #[]) (fds : Array FieldInfo := #[]) : ClassFile where
  minorVersion := 0
  majorVersion := 65
  constantPool := pool
  accessFlags := fl
  thisClass := this
  superClass := sup
  interfaces := ifs
  fields := fds
  methods := ms
  attributes := attrs
def plain (name : String) (sup : Option ClassId) : Class where
  name := name
  kind := .ordinary
  loader := none
  accessFlags := 33
  super := sup
  interfaces := #[]
  cf := none
  fields := #[]
  methods := #[]
  instanceTypes := #[]
  staticTypes := #[]
  resolved := #[]
  callSites := []
  init := .initialized
  statics := none
  mirror := none

def pool0 : Array CpInfo := pool [(5, u "<init>"), (0, u "()V"), (1, .class_ 10), (1, u "java/lang/Object")] 113

def k0c0 : Code := { maxStack := 0, maxLocals := 1, code := object_method_1_code, exceptionTable := #[], attributes := #[] }
def k0m0 : Method := { name := "<init>", desc := "()V", sig := { parameters := [], returnType := none }, accessFlags := 1, code := some k0c0 }
/-- java/lang/Object -/
def k0 : Class := { plain "java/lang/Object" none with
  accessFlags := 33
  interfaces := #[]
  cf := some (fileOf pool0 8 #[] #[{ accessFlags := 1, nameIndex := 5, descriptorIndex := 6, attributes := #[] }] 33 0 #[] #[])
  fields := #[]
  methods := #[k0m0]
  instanceTypes := #[]
  staticTypes := #[]
  resolved := Array.replicate 124 none
  statics := none }

def pool1 : Array CpInfo := pool [(2, .class_ 4), (1, u "java/lang/Object"), (0, u "<init>"), (0, u "()V"), (0, .integer 2147483647), (2, .long 9223372036854775807), (1, .methodref 13 14), (0, .class_ 15), (0, .nameAndType 16 17), (0, u "wavecast/estimate/NewRunMapWavesPinLaw"), (0, u "positive"), (0, u "(I)I"), (0, .class_ 19), (0, u "wavecast/estimate/NewRun"), (0, .methodref 18 21), (0, .nameAndType 5 22), (0, u "(JIIII)V"), (0, .methodref 18 24), (0, .nameAndType 25 26), (0, u "mapWaves"), (0, u "()J"), (0, .long 2147483647), (4, u "law"), (0, u "(JIIII)Z")] 2

def k1m0 : Method := { name := "<init>", desc := "()V", sig := { parameters := [], returnType := none }, accessFlags := 2, code := none }
def k1c1 : Code := { maxStack := 2, maxLocals := 2, code := method_2_code, exceptionTable := #[], attributes := #[] }
def k1m1 : Method := { name := "positive", desc := "(I)I", sig := { parameters := [.int], returnType := some .int }, accessFlags := 10, code := some k1c1 }
def k1c2 : Code := { maxStack := 8, maxLocals := 21, code := code, exceptionTable := #[], attributes := #[] }
def k1m2 : Method := { name := "law", desc := "(JIIII)Z", sig := { parameters := [.long, .int, .int, .int, .int], returnType := some .boolean }, accessFlags := 9, code := some k1c2 }
/-- wavecast/estimate/NewRunMapWavesPinLaw -/
def k1 : Class := { plain "wavecast/estimate/NewRunMapWavesPinLaw" (some 0) with
  accessFlags := 49
  interfaces := #[]
  cf := some (fileOf pool1 13 #[] #[{ accessFlags := 2, nameIndex := 5, descriptorIndex := 6, attributes := #[] }, { accessFlags := 10, nameIndex := 16, descriptorIndex := 17, attributes := #[] }, { accessFlags := 9, nameIndex := 32, descriptorIndex := 33, attributes := #[] }] 49 2 #[] #[])
  fields := #[]
  methods := #[k1m0, k1m1, k1m2]
  instanceTypes := #[]
  staticTypes := #[]
  resolved := Array.replicate 36 none
  statics := none }

def pool2 : Array CpInfo := pool [(1, .methodref 2 3), (0, .class_ 4), (0, .nameAndType 5 6), (0, u "java/lang/Object"), (0, u "<init>"), (0, u "()V"), (0, .class_ 8), (0, u "java/lang/Record")] 13

def k2c0 : Code := { maxStack := 1, maxLocals := 1, code := jdk_30_method_1_code, exceptionTable := #[], attributes := #[] }
def k2m0 : Method := { name := "<init>", desc := "()V", sig := { parameters := [], returnType := none }, accessFlags := 4, code := some k2c0 }
/-- java/lang/Record -/
def k2 : Class := { plain "java/lang/Record" (some 0) with
  accessFlags := 1057
  interfaces := #[]
  cf := some (fileOf pool2 7 #[] #[{ accessFlags := 4, nameIndex := 5, descriptorIndex := 6, attributes := #[] }] 1057 2 #[] #[])
  fields := #[]
  methods := #[k2m0]
  instanceTypes := #[]
  staticTypes := #[]
  resolved := Array.replicate 22 none
  statics := none }

def pool3 : Array CpInfo := pool [(1, .methodref 2 3), (0, .class_ 4), (0, .nameAndType 5 6), (0, u "java/lang/Record"), (0, u "<init>"), (0, u "()V"), (7, .fieldref 15 16), (0, .class_ 17), (0, .nameAndType 18 19), (0, u "wavecast/estimate/NewRun"), (0, u "inputBytes"), (0, u "J"), (0, .fieldref 15 21), (0, .nameAndType 22 23), (0, u "maps"), (0, u "I"), (0, .fieldref 15 25), (0, .nameAndType 26 23), (0, u "reduces"), (0, .fieldref 15 28), (0, .nameAndType 29 23), (0, u "mapSlots"), (0, .fieldref 15 31), (0, .nameAndType 32 23), (0, u "reduceSlots"), (4, u "()J"), (11, u "(JIIII)V"), (16, u "mapWaves")] 28

def k3c0 : Code := { maxStack := 4, maxLocals := 7, code := prog_15_method_1_code, exceptionTable := #[], attributes := #[] }
def k3m0 : Method := { name := "<init>", desc := "(JIIII)V", sig := { parameters := [.long, .int, .int, .int, .int], returnType := none }, accessFlags := 1, code := some k3c0 }
def k3c1 : Code := { maxStack := 4, maxLocals := 1, code := prog_15_method_2_code, exceptionTable := #[], attributes := #[] }
def k3m1 : Method := { name := "mapWaves", desc := "()J", sig := { parameters := [], returnType := some .long }, accessFlags := 1, code := some k3c1 }
/-- wavecast/estimate/NewRun -/
def k3 : Class := { plain "wavecast/estimate/NewRun" (some 2) with
  accessFlags := 49
  interfaces := #[]
  cf := some (fileOf pool3 15 #[] #[{ accessFlags := 1, nameIndex := 5, descriptorIndex := 49, attributes := #[] }, { accessFlags := 1, nameIndex := 66, descriptorIndex := 37, attributes := #[] }] 49 2 #[] #[{ accessFlags := 18, nameIndex := 18, descriptorIndex := 19, attributes := #[] }, { accessFlags := 18, nameIndex := 22, descriptorIndex := 23, attributes := #[] }, { accessFlags := 18, nameIndex := 26, descriptorIndex := 23, attributes := #[] }, { accessFlags := 18, nameIndex := 29, descriptorIndex := 23, attributes := #[] }, { accessFlags := 18, nameIndex := 32, descriptorIndex := 23, attributes := #[] }])
  fields := #[{ name := "inputBytes", type := .long, accessFlags := 18, slot := 0, constantValue := 0 }, { name := "maps", type := .int, accessFlags := 18, slot := 1, constantValue := 0 }, { name := "reduces", type := .int, accessFlags := 18, slot := 2, constantValue := 0 }, { name := "mapSlots", type := .int, accessFlags := 18, slot := 3, constantValue := 0 }, { name := "reduceSlots", type := .int, accessFlags := 18, slot := 4, constantValue := 0 }]
  methods := #[k3m0, k3m1]
  instanceTypes := #[.long, .int, .int, .int, .int]
  staticTypes := #[]
  resolved := Array.replicate 95 none
  statics := none }

def pool4 : Array CpInfo := pool [(1, u "java/lang/Cloneable"), (0, .class_ 1), (0, u "java/lang/Object"), (0, .class_ 3)] 3

/-- java/lang/Cloneable -/
def k4 : Class := { plain "java/lang/Cloneable" (some 0) with
  accessFlags := 1537
  interfaces := #[]
  cf := some (fileOf pool4 2 #[] #[] 1537 4 #[] #[])
  fields := #[]
  methods := #[]
  instanceTypes := #[]
  staticTypes := #[]
  resolved := Array.replicate 8 none
  statics := none }

def pool5 : Array CpInfo := pool [(1, u "java/io/Serializable"), (0, .class_ 1), (0, u "java/lang/Object"), (0, .class_ 3)] 3

/-- java/io/Serializable -/
def k5 : Class := { plain "java/io/Serializable" (some 0) with
  accessFlags := 1537
  interfaces := #[]
  cf := some (fileOf pool5 2 #[] #[] 1537 4 #[] #[])
  fields := #[]
  methods := #[]
  instanceTypes := #[]
  staticTypes := #[]
  resolved := Array.replicate 8 none
  statics := none }

/-- the primitive byte -/
def k6 : Class := { plain "byte" none with kind := .primitive 'B', accessFlags := 0x411 }
/-- [B -/
def k7 : Class := { plain "[B" (some 0) with kind := .array 6 .byte, interfaces := #[4, 5], accessFlags := 1041 }

/-- the primitive int -/
def k8 : Class := { plain "int" none with kind := .primitive 'I', accessFlags := 0x411 }
/-- [I -/
def k9 : Class := { plain "[I" (some 0) with kind := .array 8 .int, interfaces := #[4, 5], accessFlags := 1041 }

def heap : Heap := #[]
def classes : Array Class := #[k0, k1, k2, k3, k4, k5, k6, k7, k8, k9]
def interned : List (Array UInt16 × Addr) := []
def slotsUsed : Nat := 0
def theMethod : MethodId := ⟨1, 2⟩
def args0 : Array Value := #[.long 100, .int 7, .int 3, .int 2, .int 5]
def aboutOver (below : List Frame) : State where
  vm := { classes := classes, interned := interned.toArray }
  heap := heap
  slotsUsed := slotsUsed
  threads := #[{ frames := .invoking theMethod args0 :: below }]
def below0 : List Frame := [.native { method := ⟨0, 0⟩, args := #[] }]
def about1 : State := aboutOver below0
def p0 : Program := .bare "" "" ""
def e0 : Env := launch0.env 0 0 0
theorem w_frames : about1.frames = Frame.invoking theMethod args0 :: below0 := rfl
set_option maxRecDepth 65536 in
theorem w_args : argsFit about1.vm theMethod args0 = true := by decide +kernel
set_option maxRecDepth 65536 in
theorem w_heap : heapFits about1 = true := by decide +kernel
set_option maxRecDepth 65536 in
theorem w_runnable : about1.curStatus? = some .runnable := by decide +kernel
set_option maxRecDepth 65536 in
theorem w_alone : about1.alone = true := by decide +kernel
set_option maxRecDepth 65536 in
theorem w_named : about1.methodNamed? x = some theMethod := by decide +kernel
set_option maxRecDepth 65536 in
theorem w_hears : about1.hears theMethod below0 = true := by decide +kernel
set_option maxRecDepth 65536 in
theorem w_ripe : about1.ripe theMethod args0 below0 = true := by decide +kernel
theorem w_running : about1.status = .running := rfl
set_option maxRecDepth 65536 in
theorem w_room : about1.hasRoom e0.platform room_1 = true :=
  launch0.hasRoom_least _ room_1 (by decide +kernel) (by decide +kernel) (by decide +kernel) (by decide +kernel) (by decide +kernel) (by decide +kernel)
theorem allAtoms_all (ts : List Jvm.Cond) (a : Array Jvm.Value) (st : Jvm.State) : (allAtoms ts).before a st = ts.all (fun c => c.before a st) := by
  induction ts with
  | nil => rfl
  | cons c t ih =>
    show (Jvm.Cond.and c (allAtoms t)).before a st = _
    rw [Jvm.Cond.before_and, ih, List.all_cons]
def words1 : List Jvm.Cond := Jvm.Cond.code x code maxLocals ret :: tables_1
/-- a 'code' word, met by the world's own term for the bytes: nothing is compared byte by byte -/
theorem code_word {y : MethodName} {bytes : ByteArray} {mx : Nat} {rt : Option FieldType} {a : Array Value} {s : State} {m : MethodId} {meth : Method} {c : Code} (h1 : s.methodNamed? y = some m) (h2 : s.vm.method? m = some meth) (h3 : meth.code = some c) (h4 : c.code = bytes)
    (h5 : (c.maxLocals == mx && c.exceptionTable.isEmpty && decide (c.maxStack ≤ mostOperands) && decide (meth.sig.returnType = rt) && !meth.locks && decide (parseMethodDescriptor y.desc = some meth.sig)) = true) : (Jvm.Cond.code y bytes mx rt).before a s = true := by
  simp only [Bool.and_eq_true, beq_iff_eq, Bool.not_eq_true', decide_eq_true_eq] at h5
  obtain ⟨⟨⟨⟨⟨g1, g2⟩, g3⟩, g4⟩, g5⟩, g6⟩ := h5
  simp [Cond.before, Cond.holds, Cond.value, h1, h2, h3, h4, g1, g2, g3, g4, g5, g6]
def isCode : Jvm.Cond → Bool
  | .code _ _ _ _ => true
  | _ => false
theorem all_split {L : List Jvm.Cond} {P : Jvm.Cond → Bool} (h1 : L.all (fun c => isCode c || P c) = true) (h2 : ∀ c ∈ L.filter isCode, P c = true) : L.all P = true := by
  refine List.all_eq_true.mpr fun c hc => ?_
  have h := List.all_eq_true.mp h1 c hc
  rcases Bool.eq_false_or_eq_true (isCode c) with hi | hi
  · exact h2 c (List.mem_filter.mpr ⟨hc, hi⟩)
  · simpa [hi] using h
set_option maxRecDepth 65536 in
theorem w_c0 : (Jvm.Cond.code x code maxLocals ret).before args0 about1 = true := code_word (m := ⟨1, 2⟩) (meth := k1m2) (c := k1c2) (by decide +kernel) rfl rfl rfl (by decide +kernel)
set_option maxRecDepth 65536 in
theorem w_c1 : (Jvm.Cond.code ({ cls := "wavecast/estimate/NewRunMapWavesPinLaw", name := "positive", desc := "(I)I" } : Jvm.MethodName) method_2_code (2 : Nat) (Option.some Jvm.ClassFile.FieldType.int)).before args0 about1 = true := code_word (m := ⟨1, 1⟩) (meth := k1m1) (c := k1c1) (by decide +kernel) rfl rfl rfl (by decide +kernel)
set_option maxRecDepth 65536 in
theorem w_c2 : (Jvm.Cond.code ({ cls := "wavecast/estimate/NewRun", name := "<init>", desc := "(JIIII)V" } : Jvm.MethodName) prog_15_method_1_code (7 : Nat) (Option.none : Option Jvm.ClassFile.FieldType)).before args0 about1 = true := code_word (m := ⟨3, 0⟩) (meth := k3m0) (c := k3c0) (by decide +kernel) rfl rfl rfl (by decide +kernel)
set_option maxRecDepth 65536 in
theorem w_c3 : (Jvm.Cond.code ({ cls := "java/lang/Record", name := "<init>", desc := "()V" } : Jvm.MethodName) jdk_30_method_1_code (1 : Nat) (Option.none : Option Jvm.ClassFile.FieldType)).before args0 about1 = true := code_word (m := ⟨2, 0⟩) (meth := k2m0) (c := k2c0) (by decide +kernel) rfl rfl rfl (by decide +kernel)
set_option maxRecDepth 65536 in
theorem w_c4 : (Jvm.Cond.code ({ cls := "java/lang/Object", name := "<init>", desc := "()V" } : Jvm.MethodName) object_method_1_code (1 : Nat) (Option.none : Option Jvm.ClassFile.FieldType)).before args0 about1 = true := code_word (m := ⟨0, 0⟩) (meth := k0m0) (c := k0c0) (by decide +kernel) rfl rfl rfl (by decide +kernel)
set_option maxRecDepth 65536 in
theorem w_c5 : (Jvm.Cond.code ({ cls := "wavecast/estimate/NewRun", name := "mapWaves", desc := "()J" } : Jvm.MethodName) prog_15_method_2_code (1 : Nat) (Option.some Jvm.ClassFile.FieldType.long)).before args0 about1 = true := code_word (m := ⟨3, 1⟩) (meth := k3m1) (c := k3c1) (by decide +kernel) rfl rfl rfl (by decide +kernel)
def codes1 : List Jvm.Cond := [Jvm.Cond.code x code maxLocals ret, Jvm.Cond.code ({ cls := "wavecast/estimate/NewRunMapWavesPinLaw", name := "positive", desc := "(I)I" } : Jvm.MethodName) method_2_code (2 : Nat) (Option.some Jvm.ClassFile.FieldType.int), Jvm.Cond.code ({ cls := "wavecast/estimate/NewRun", name := "<init>", desc := "(JIIII)V" } : Jvm.MethodName) prog_15_method_1_code (7 : Nat) (Option.none : Option Jvm.ClassFile.FieldType), Jvm.Cond.code ({ cls := "java/lang/Record", name := "<init>", desc := "()V" } : Jvm.MethodName) jdk_30_method_1_code (1 : Nat) (Option.none : Option Jvm.ClassFile.FieldType), Jvm.Cond.code ({ cls := "java/lang/Object", name := "<init>", desc := "()V" } : Jvm.MethodName) object_method_1_code (1 : Nat) (Option.none : Option Jvm.ClassFile.FieldType), Jvm.Cond.code ({ cls := "wavecast/estimate/NewRun", name := "mapWaves", desc := "()J" } : Jvm.MethodName) prog_15_method_2_code (1 : Nat) (Option.some Jvm.ClassFile.FieldType.long)]
set_option maxRecDepth 65536 in
theorem codes_eq : words1.filter isCode = codes1 := rfl
theorem w_codes : ∀ c ∈ words1.filter isCode, c.before args0 about1 = true := by
  rw [codes_eq]
  intro c hc
  simp only [codes1, List.mem_cons, List.not_mem_nil, or_false] at hc
  rcases hc with rfl | rfl | rfl | rfl | rfl | rfl
  · exact w_c0
  · exact w_c1
  · exact w_c2
  · exact w_c3
  · exact w_c4
  · exact w_c5
set_option maxRecDepth 65536 in
theorem w_t1 : (words1.take 24).all (fun c => isCode c || c.before args0 about1) = true := by decide +kernel
set_option maxRecDepth 65536 in
theorem w_t2 : (words1.drop 24).all (fun c => isCode c || c.before args0 about1) = true := by decide +kernel
theorem w_tables : (allAtoms (Jvm.Cond.code x code maxLocals ret :: tables_1)).before args0 about1 = true := by
  rw [allAtoms_all]
  show words1.all (fun c => c.before args0 about1) = true
  refine all_split ?_ w_codes
  rw [← List.take_append_drop 24 words1, List.all_append, w_t1, w_t2]
  rfl
set_option maxRecDepth 65536 in
theorem w_case : (Jvm.Cond.and given_1 narrow_1).before args0 about1 = true := by decide +kernel
theorem w_applies : (headSpec (Jvm.Cond.code x code maxLocals ret :: tables_1) room_1).applies x e0.platform about1 = true :=
  (Spec.applies_iff w_frames).mpr ⟨w_running, w_runnable, w_alone, w_named, w_hears, w_ripe, w_room, w_tables⟩
theorem atStart : AtStart classFile x code maxLocals ret World_1 tables_1 room_1 Calls_1 rest_1 Pre_1 launch0 p0 e0 about1 theMethod args0 below0 :=
  ⟨lists_1, trivial, launch0.admits_env _ _ _, launch0.least_env, fairChoices_fair.cas, fairChoices_fair.clock, w_frames, w_args, w_heap, w_applies, trivial, trivial, w_case⟩
end start1
theorem witness_1 : WitnessClaimed_1 := ⟨start1.p0, start1.e0, start1.about1, start1.theMethod, start1.args0, start1.below0, start1.atStart⟩
end Jvm.Pilot.@@N@@
