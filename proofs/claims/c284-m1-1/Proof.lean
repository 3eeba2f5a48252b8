import JvmDerived
import JvmDerived.Pilot.@@N@@Statement
import JvmDerived.Pilot.@@N@@Code
set_option linter.unusedVariables false
set_option linter.unusedSimpArgs false
namespace Jvm.RoadKit
open Sem ClassFile Op Lib Jvm.Stand Jvm.Free Jvm.LawKit
section Own
variable {p : Program} {l : Launch} {e : Env} {R : Room} {s : State} {m : MethodId} {args : Array Value} {below : List Frame} {meth : Method} {c : Code} {T : State} {locs : List Loc} {cells slots : Nat} {Q : Option Value → Heap → List Loc → Prop} {k n : Nat} {A B : State} {h : Heap}
/-- from the state A the run comes to its end, with what Q says -/
def Goes (p : Program) (e : Env) (below : List Frame) (s : State) (Q : Option Value → Heap → List Loc → Prop) (k n : Nat) (A : State) : Prop :=
  ∃ s₂ o, Steps p.tables e below A s₂ ∧ s₂.status = .running ∧ Ended s₂ below o ∧ ∃ v L, o = .returned v ∧ Q v s₂.heap L ∧ FrameEnd s o s₂ L k n
theorem Goes.step (q : ∀ t, Steps p.tables e below B t → Steps p.tables e below A t) (g : Goes p e below s Q k n B) : Goes p e below s Q k n A := by
  obtain ⟨s₂, o, h1, h2⟩ := g
  exact ⟨s₂, o, q _ h1, h2⟩
theorem Goes.via (q : Steps p.tables e below A B) (g : Goes p e below s Q k n B) : Goes p e below s Q k n A := by
  obtain ⟨s₂, o, h1, h2⟩ := g
  exact ⟨s₂, o, q.trans h1, h2⟩
theorem Goes.enter {g g' : JFrame} (q : g = g') (h : Goes p e below s Q k n (T.setTop g')) : Goes p e below s Q k n (T.setTop g) := q ▸ h
theorem Goes.out (X : Stand p l e R s m args below meth c T locs cells slots) (eT : T.heap = h) {v : Option Value} (hv : meth.sig.returnType = none → v = none) (hlk : meth.locks = false)
    (hs : ∀ fs, (∀ (f : JFrame) (acts : List Action), f.method = m → f.locked = none → f.entered = [] → (doReturn e (T.setTop f) acts v).1 = T.setFrames fs) → Steps p.tables e below A (T.setFrames fs)) (hk : cells ≤ k) (hn : slots ≤ n) (hQ : Q v h locs) : Goes p e below s Q k n A := by
  obtain ⟨fs, hr, hrun, hended, hW, hsame⟩ := X.leave (v := v) hv hlk
  exact ⟨_, _, hs fs hr, hrun, hended, _, _, rfl, (by show Q v T.heap locs; rw [eT]; exact hQ), ⟨_, rfl⟩, hW, hsame.mono hk hn⟩
theorem own_some {t : FieldType} {v : Option Value} (h : meth.sig.returnType = some t) : meth.sig.returnType = none → v = none := fun q => by rw [h] at q; cases q
theorem Goes.retI (X : Stand p l e R s m args below meth c T locs cells slots) (hx : p.tables.exec = Jvm.exec) (eT : T.heap = h) {pc : Nat} {Ls : Array Slot} {z : Int32} {rest : List Value} (hret : meth.sig.returnType = some .int) (hlk : meth.locks = false) (hd : decode c.code pc = .ok (.ireturn, 1)) (hk : cells ≤ k) (hn : slots ≤ n) (hQ : Q (some (.int z)) h locs) :
    Goes p e below s Q k n (T.setTop (mkF m pc Ls (.int z :: rest))) :=
  Goes.out X eT (own_some hret) hlk (fun fs hr => retOut X hx hret rfl (Or.inl ⟨rfl, Or.inl rfl, z, rfl⟩) hd hr) hk hn hQ
theorem Goes.retN (X : Stand p l e R s m args below meth c T locs cells slots) (hx : p.tables.exec = Jvm.exec) (eT : T.heap = h) {pc : Nat} {Ls : Array Slot} {z : Int32} {t : FieldType} {rest : List Value} (hret : meth.sig.returnType = some t) (ht : t = .boolean ∨ t = .byte ∨ t = .char ∨ t = .short) (hlk : meth.locks = false) (hd : decode c.code pc = .ok (.ireturn, 1)) (hk : cells ≤ k) (hn : slots ≤ n) (hQ : Q (some (.int (nar t z))) h locs) :
    Goes p e below s Q k n (T.setTop (mkF m pc Ls (.int z :: rest))) :=
  Goes.out X eT (own_some hret) hlk (fun fs hr => Jvm.RoadKit.retN X hx hret ht hd hr) hk hn hQ
theorem Goes.retV (X : Stand p l e R s m args below meth c T locs cells slots) (hx : p.tables.exec = Jvm.exec) (eT : T.heap = h) {pc : Nat} {Ls : Array Slot} (hret : meth.sig.returnType = none) (hlk : meth.locks = false) (hd : decode c.code pc = .ok (.return_, 1)) (hk : cells ≤ k) (hn : slots ≤ n) (hQ : Q none h locs) :
    Goes p e below s Q k n (T.setTop (mkF m pc Ls [])) :=
  Goes.out X eT (fun _ => rfl) hlk (fun fs hr => X.returnOut hx hret hd hr) hk hn hQ
theorem Goes.retJ (X : Stand p l e R s m args below meth c T locs cells slots) (hx : p.tables.exec = Jvm.exec) (eT : T.heap = h) {pc : Nat} {Ls : Array Slot} {z : Int64} {rest : List Value} (hret : meth.sig.returnType = some .long) (hlk : meth.locks = false) (hd : decode c.code pc = .ok (.lreturn, 1)) (hk : cells ≤ k) (hn : slots ≤ n) (hQ : Q (some (.long z)) h locs) :
    Goes p e below s Q k n (T.setTop (mkF m pc Ls (.long z :: rest))) :=
  Goes.out X eT (own_some hret) hlk (fun fs hr => retOut X hx hret rfl (Or.inr (Or.inl ⟨rfl, rfl, z, rfl⟩)) hd hr) hk hn hQ
theorem Goes.retD (X : Stand p l e R s m args below meth c T locs cells slots) (hx : p.tables.exec = Jvm.exec) (eT : T.heap = h) {pc : Nat} {Ls : Array Slot} {z : UInt64} {rest : List Value} (hret : meth.sig.returnType = some .double) (hlk : meth.locks = false) (hd : decode c.code pc = .ok (.dreturn, 1)) (hk : cells ≤ k) (hn : slots ≤ n) (hQ : Q (some (.double z)) h locs) :
    Goes p e below s Q k n (T.setTop (mkF m pc Ls (.double z :: rest))) :=
  Goes.out X eT (own_some hret) hlk (fun fs hr => retOut X hx hret rfl (Or.inr (Or.inr (Or.inl ⟨rfl, rfl, z, rfl⟩))) hd hr) hk hn hQ
theorem own_narR {t : FieldType} {w : Value} (h : t.isReference = true) : narrow t w = w := by cases t <;> first | rfl | (cases w <;> first | rfl | cases h)
theorem Goes.retA (X : Stand p l e R s m args below meth c T locs cells slots) (hx : p.tables.exec = Jvm.exec) (eT : T.heap = h) {pc : Nat} {Ls : Array Slot} {w : Value} {t : FieldType} {rest : List Value} (hret : meth.sig.returnType = some t) (ht : t.isReference = true) (hw : w.isRef = true) (hlk : meth.locks = false) (hd : decode c.code pc = .ok (.areturn, 1)) (hk : cells ≤ k) (hn : slots ≤ n) (hQ : Q (some w) h locs) :
    Goes p e below s Q k n (T.setTop (mkF m pc Ls (w :: rest))) :=
  Goes.out X eT (own_some hret) hlk (fun fs hr => retOut X hx hret (own_narR ht) (Or.inr (Or.inr (Or.inr (Or.inr ⟨rfl, ht, hw⟩)))) hd hr) hk hn hQ
theorem own_z {Z : State} {n0 : Nat} (O : Old Z n0 h) : n0 ≤ h.size := O.1 ▸ O.2.1
end Own
end Jvm.RoadKit
namespace Jvm.Pilot.@@N@@
open Jvm Jvm.ClassFile Sem Op Lib Jvm.Free Jvm.Stand Jvm.LawKit Jvm.RoadKit Bundle Jvm.Pilot.@@N@@.Jvm.D
theorem own_bv (u : BitVec 32) : (u ^^^ 32#32) &&& 32#32 = ((u &&& 63#32) ^^^ 32#32) &&& 32#32 := by
  ext i hi
  have h : (32#32)[i] = true → (63#32)[i] = true := by
    revert i
    decide
  simp only [BitVec.getElem_and, BitVec.getElem_xor]
  cases hq : (32#32)[i]
  · simp
  · simp [h hq]
theorem own_fin64 : ∀ i : Fin 64, ((Int32.ofNat i.1 &&& 32 = 0) = (Int32.ofNat i.1 < 32)) ∧ (((Int32.ofNat i.1 ^^^ 32) &&& 32 = 0) = ¬ (Int32.ofNat i.1 &&& 32 = 0)) := by decide
theorem own_fin32 : ∀ i : Fin 32, ¬ ((160 : Int32) ||| Int32.ofNat i.1) &&& 32 = 0 ∧ ((128 : Int32) ||| Int32.ofNat i.1) &&& 32 = 0 := by decide
theorem own_small {z : Int32} {n : Nat} (h1 : 0 ≤ z.toInt) (h2 : z.toInt < n) : ∃ i : Fin n, z = Int32.ofNat i.1 := by
  refine ⟨⟨z.toInt.toNat, by omega⟩, ?_⟩
  have r := rng32 z
  apply Int32.toInt_inj.mp
  show z.toInt = (Int32.ofNat z.toInt.toNat).toInt
  rw [Int32.toInt_ofNat_of_lt (by omega)]
  omega
theorem own_63 (t : Int32) : ((t &&& 32 = 0) = ((t &&& 63) < 32)) ∧ (((t ^^^ 32) &&& 32 = 0) = ¬ (t &&& 32 = 0)) := by
  have a := c_mask t 63 6 (by decide) (by decide)
  obtain ⟨i, hi⟩ := own_small (z := t &&& 63) (n := 64) (by omega) (by omega)
  have e1 : t &&& 32 = (t &&& 63) &&& 32 := by rw [Int32.and_assoc]; rfl
  have e2 : (t ^^^ 32) &&& 32 = ((t &&& 63) ^^^ 32) &&& 32 := by
    apply Int32.toBitVec_inj.mp
    show (t.toBitVec ^^^ 32#32) &&& 32#32 = ((t.toBitVec &&& 63#32) ^^^ 32#32) &&& 32#32
    exact own_bv _
  rw [e2, e1, hi]
  exact own_fin64 i
theorem own_31 (t : Int32) : ¬ ((160 : Int32) ||| (t &&& 31)) &&& 32 = 0 ∧ ((128 : Int32) ||| (t &&& 31)) &&& 32 = 0 := by
  have a := c_mask t 31 5 (by decide) (by decide)
  obtain ⟨i, hi⟩ := own_small (z := t &&& 31) (n := 32) (by omega) (by omega)
  rw [hi]
  exact own_fin32 i
theorem d2_0 : decode jdk_30_method_1_code 0 = .ok (.aload_n 0, 1) := by decide +kernel
theorem d2_1 : decode jdk_30_method_1_code 1 = .ok (.invokespecial 1, 3) := by decide +kernel
theorem d2_4 : decode jdk_30_method_1_code 4 = .ok (.return_, 1) := by decide +kernel
theorem pn_Record : plainName "java/lang/Record" = true := by first | (simp [plainName, overriddenIn]; done) | decide +kernel
theorem ef_rm2 (m : MethodId) (x0 : Addr) : entryFrame m #[(.ref x0)] 1 = mkF m 0 #[.val (.ref x0)] [] := by first | (simp [entryFrame, mkF, argsToLocals, Value.category]; done) | rfl
def Q2 (Z : State) (a1 : Addr) (h0 : Heap) (n0 : Nat) (v : Option Value) (h : Heap) (L : List Loc) : Prop := v = none ∧ Fr n0 L ∧ h = h0
set_option maxRecDepth 65536 in
set_option maxHeartbeats 40000000 in
theorem rm2 (l : Launch) (Z : State) (a0 : Array Value) (hw : ∀ d ∈ tables_1, d.before a0 Z = true) (ws : List Jvm.Cond) (a1 : Addr) (h0 : Heap) (n0 : Nat) (O0 : Old Z n0 h0) :
    MetFree l (⟨"java/lang/Record", "<init>", "()V"⟩ : MethodName) (head1 (Jvm.Cond.code (⟨"java/lang/Record", "<init>", "()V"⟩ : MethodName) jdk_30_method_1_code 1 none :: ws) ({ frames := 1, cells := 0, slots := 0, locals := 12 } : Room)) (fun a U => a = #[(.ref a1)] ∧ Z.Warmed39 U.vm ∧ U.heap = h0) (fun _ _ _ _ _ => True) (fun _ U o U' => ∃ v L, o = .returned v ∧ Q2 Z a1 h0 n0 v U'.heap L ∧ FrameEnd U o U' L ({ frames := 1, cells := 0, slots := 0, locals := 12 } : Room).cells ({ frames := 1, cells := 0, slots := 0, locals := 12 } : Room).slots) := by
  refine MetFree.of_bodySF (plainFor_of_name pn_Record) hisR ?_
  intro p e s m args below meth c s₁ Bd hml0 hP hK
  obtain ⟨rfl, hZ, hh⟩ := hP
  have hx := Bd.exec
  have hby := Bd.bytes
  have hlk : meth.locks = false := BodyLoose.notSynchronized Bd
  have hml : c.maxLocals = 1 := hml0
  have hown : s.vm.findClass "java/lang/Record" = some m.cls := findClass_of_methodNamed Bd.named
  have hnm := (name_of_methodNamed Bd.named Bd.method).1
  have X0 : Stand p l e ({ frames := 1, cells := 0, slots := 0, locals := 12 } : Room) s m #[(.ref a1)] below meth c s₁ [] 0 0 := Stand.of_body Bd
  have e0 : s₁.heap = h0 := by rw [← hh, Bd.state]; rfl
  have N0 := Fr.nil n0
  show Goes p e below s (Q2 Z a1 h0 n0) ({ frames := 1, cells := 0, slots := 0, locals := 12 } : Room).cells ({ frames := 1, cells := 0, slots := 0, locals := 12 } : Room).slots (s₁.setTop (entryFrame m #[(.ref a1)] 1))
  refine Goes.enter (g' := (mkF m 0 #[.val (.ref a1)] [])) (ef_rm2 m a1) ?_
  refine Goes.step (B := s₁.setTop (mkF m 1 #[.val (.ref a1)] [(.ref a1)])) (fun _ k => XS.aloadN X0.here hx rfl (hb hby d2_0) rfl rfl k) ?_
  obtain ⟨T1, X1, e1, st1⟩ := initO X0 hx hZ hown (hw _ (List.mem_of_getElem? (i := 12) rfl)) (hw _ (List.mem_of_getElem? (i := 13) rfl)) (hw _ (List.mem_of_getElem? (i := 14) rfl)) e0 (g := (mkF m 1 #[.val (.ref a1)] [(.ref a1)])) rfl (by rw [hml]; rfl) rfl (hb hby d2_1) (by decide) (W := 0) (by show 2 * 0 + _ ≤ _; exact Nat.le_of_eq rfl) (by decide)
  refine Goes.step (B := T1.setTop (mkF m 4 #[.val (.ref a1)] [])) st1 ?_
  exact Goes.retV X1 hx e1 Bd.returns hlk (hb hby d2_4) (by decide) (by decide) (⟨rfl, N0, rfl⟩)
theorem d1_0 : decode prog_17_method_1_code 0 = .ok (.aload_n 0, 1) := by decide +kernel
theorem d1_1 : decode prog_17_method_1_code 1 = .ok (.invokespecial 1, 3) := by decide +kernel
theorem pd_0 : parseMethodDescriptor "()V" = some ⟨[], none⟩ := by decide +kernel
theorem d1_4 : decode prog_17_method_1_code 4 = .ok (.aload_n 0, 1) := by decide +kernel
theorem d1_5 : decode prog_17_method_1_code 5 = .ok (.iload_n 1, 1) := by decide +kernel
theorem d1_6 : decode prog_17_method_1_code 6 = .ok (.putfield 7, 3) := by decide +kernel
theorem d1_9 : decode prog_17_method_1_code 9 = .ok (.aload_n 0, 1) := by decide +kernel
theorem d1_10 : decode prog_17_method_1_code 10 = .ok (.lload_n 2, 1) := by decide +kernel
theorem d1_11 : decode prog_17_method_1_code 11 = .ok (.putfield 13, 3) := by decide +kernel
theorem d1_14 : decode prog_17_method_1_code 14 = .ok (.aload_n 0, 1) := by decide +kernel
theorem d1_15 : decode prog_17_method_1_code 15 = .ok (.aload 4, 2) := by decide +kernel
theorem d1_17 : decode prog_17_method_1_code 17 = .ok (.putfield 17, 3) := by decide +kernel
theorem d1_20 : decode prog_17_method_1_code 20 = .ok (.aload_n 0, 1) := by decide +kernel
theorem d1_21 : decode prog_17_method_1_code 21 = .ok (.lload 5, 2) := by decide +kernel
theorem d1_23 : decode prog_17_method_1_code 23 = .ok (.putfield 21, 3) := by decide +kernel
theorem d1_26 : decode prog_17_method_1_code 26 = .ok (.return_, 1) := by decide +kernel
theorem pn_Ber_Header : plainName "com/example/gridclear/gridclear/cms/Ber$Header" = true := by first | (simp [plainName, overriddenIn]; done) | decide +kernel
theorem ef_rm1 (m : MethodId) (x0 : Addr) (x1 : Int32) (x2 : Int64) (x3 : Addr) (x4 : Int64) : entryFrame m #[(.ref x0), (.int x1), (.long x2), (.ref x3), (.long x4)] 7 = mkF m 0 #[.val (.ref x0), .val (.int x1), .val (.long x2), .second, .val (.ref x3), .val (.long x4), .second] [] := by first | (simp [entryFrame, mkF, argsToLocals, Value.category]; done) | rfl
def Q1 (Z : State) (a0r : Addr) (p1 : Int32) (p2 : Int64) (p3 : Addr) (p4 : Int64) (h0 : Heap) (n0 : Nat) (v : Option Value) (h : Heap) (L : List Loc) : Prop := v = none ∧ Fr n0 L ∧ Keep h0 h [a0r] ∧ Exa Z h a0r "com/example/gridclear/gridclear/cms/Ber$Header" ∧ Fld Z h a0r "com/example/gridclear/gridclear/cms/Ber$Header" "tag" "I" (.int p1) ∧ Fld Z h a0r "com/example/gridclear/gridclear/cms/Ber$Header" "length" "J" (.long p2) ∧ Fld Z h a0r "com/example/gridclear/gridclear/cms/Ber$Header" "head" "[B" (.ref p3) ∧ Fld Z h a0r "com/example/gridclear/gridclear/cms/Ber$Header" "contentStart" "J" (.long p4)
set_option maxRecDepth 65536 in
set_option maxHeartbeats 40000000 in
theorem rm1 (l : Launch) (Z : State) (a0 : Array Value) (hw : ∀ d ∈ tables_1, d.before a0 Z = true) (ws : List Jvm.Cond) (a0r : Addr) (p1 : Int32) (p2 : Int64) (p3 : Addr) (p4 : Int64) (h0 : Heap) (n0 : Nat) (O0 : Old Z n0 h0) (Er : Exa Z h0 a0r "com/example/gridclear/gridclear/cms/Ber$Header") (gr : n0 ≤ a0r) (Fr_tag : Fld Z h0 a0r "com/example/gridclear/gridclear/cms/Ber$Header" "tag" "I" (.int (0 : Int32))) (Fr_length : Fld Z h0 a0r "com/example/gridclear/gridclear/cms/Ber$Header" "length" "J" (.long (0 : Int64))) (Fr_head : Fld Z h0 a0r "com/example/gridclear/gridclear/cms/Ber$Header" "head" "[B" .null) (Fr_contentStart : Fld Z h0 a0r "com/example/gridclear/gridclear/cms/Ber$Header" "contentStart" "J" (.long (0 : Int64))) :
    MetFree l (⟨"com/example/gridclear/gridclear/cms/Ber$Header", "<init>", "(IJ[BJ)V"⟩ : MethodName) (head1 (Jvm.Cond.code (⟨"com/example/gridclear/gridclear/cms/Ber$Header", "<init>", "(IJ[BJ)V"⟩ : MethodName) prog_17_method_1_code 7 none :: ws) ({ frames := 2, cells := 0, slots := 0, locals := 24 } : Room)) (fun a U => a = #[(.ref a0r), (.int p1), (.long p2), (.ref p3), (.long p4)] ∧ Z.Warmed39 U.vm ∧ U.heap = h0) (fun _ _ _ _ _ => True) (fun _ U o U' => ∃ v L, o = .returned v ∧ Q1 Z a0r p1 p2 p3 p4 h0 n0 v U'.heap L ∧ FrameEnd U o U' L ({ frames := 2, cells := 0, slots := 0, locals := 24 } : Room).cells ({ frames := 2, cells := 0, slots := 0, locals := 24 } : Room).slots) := by
  refine MetFree.of_bodySF (plainFor_of_name pn_Ber_Header) hisR ?_
  intro p e s m args below meth c s₁ Bd hml0 hP hK
  obtain ⟨rfl, hZ, hh⟩ := hP
  have hx := Bd.exec
  have hby := Bd.bytes
  have hlk : meth.locks = false := BodyLoose.notSynchronized Bd
  have hml : c.maxLocals = 7 := hml0
  have hown : s.vm.findClass "com/example/gridclear/gridclear/cms/Ber$Header" = some m.cls := findClass_of_methodNamed Bd.named
  have hnm := (name_of_methodNamed Bd.named Bd.method).1
  have X0 : Stand p l e ({ frames := 2, cells := 0, slots := 0, locals := 24 } : Room) s m #[(.ref a0r), (.int p1), (.long p2), (.ref p3), (.long p4)] below meth c s₁ [] 0 0 := Stand.of_body Bd
  have e0 : s₁.heap = h0 := by rw [← hh, Bd.state]; rfl
  have N0 := Fr.nil n0
  show Goes p e below s (Q1 Z a0r p1 p2 p3 p4 h0 n0) ({ frames := 2, cells := 0, slots := 0, locals := 24 } : Room).cells ({ frames := 2, cells := 0, slots := 0, locals := 24 } : Room).slots (s₁.setTop (entryFrame m #[(.ref a0r), (.int p1), (.long p2), (.ref p3), (.long p4)] 7))
  refine Goes.enter (g' := (mkF m 0 #[.val (.ref a0r), .val (.int p1), .val (.long p2), .second, .val (.ref p3), .val (.long p4), .second] [])) (ef_rm1 m a0r p1 p2 p3 p4) ?_
  refine Goes.step (B := s₁.setTop (mkF m 1 #[.val (.ref a0r), .val (.int p1), .val (.long p2), .second, .val (.ref p3), .val (.long p4), .second] [(.ref a0r)])) (fun _ k => XS.aloadN X0.here hx rfl (hb hby d1_0) rfl rfl k) ?_
  obtain ⟨_, _, ⟨T1, L1, k1, n1⟩, -, X1, ⟨Lc1, hQ1, l1, y1, z1⟩, st1⟩ := X0.specialBack hx (y := (⟨"java/lang/Record", "<init>", "()V"⟩ : MethodName)) rfl hown (mvT hZ (hw _ (List.mem_of_getElem? (i := 7) rfl))) (mvT hZ (hw _ (List.mem_of_getElem? (i := 8) rfl))) (mvT hZ (hw _ (List.mem_of_getElem? (i := 11) rfl))) (by decide) (backOf (W := 0) (rm2 l Z a0 hw [] a0r h0 n0 O0 ) hZ (hw _ (List.mem_of_getElem? (i := 11) rfl)) (hw _ (List.mem_of_getElem? (i := 10) rfl)) (by decide) (by decide)) (g := (mkF m 1 #[.val (.ref a0r), .val (.int p1), .val (.long p2), .second, .val (.ref p3), .val (.long p4), .second] [(.ref a0r)])) rfl (by rw [hml]; rfl) (Steps.refl _) (a := a0r) (argsL := []) (rest := []) (lenOf pd_0 rfl) rfl (by show 2 * 0 + _ ≤ _; exact Nat.le_of_eq rfl) (hb hby d1_1) (fun _ _ => ⟨rfl, e0, (by decide : 0 + 0 ≤ _), (by decide : 0 + 0 ≤ _)⟩)
  dsimp only [Pt.U, Pt.locs, Pt.cells, Pt.slots] at X1 l1 y1 z1 st1 hQ1
  subst l1 y1 z1
  obtain ⟨rfl, Nq1, eh1⟩ := hQ1
  have N1 := Fr.app N0 Nq1
  refine Goes.via (B := T1.setTop (mkF m 4 #[.val (.ref a0r), .val (.int p1), .val (.long p2), .second, .val (.ref p3), .val (.long p4), .second] [])) st1 ?_
  refine Goes.step (B := T1.setTop (mkF m 5 #[.val (.ref a0r), .val (.int p1), .val (.long p2), .second, .val (.ref p3), .val (.long p4), .second] [(.ref a0r)])) (fun _ k => XS.aloadN X1.here hx rfl (hb hby d1_4) rfl rfl k) ?_
  refine Goes.step (B := T1.setTop (mkF m 6 #[.val (.ref a0r), .val (.int p1), .val (.long p2), .second, .val (.ref p3), .val (.long p4), .second] [(.int p1), (.ref a0r)])) (fun _ k => XS.iloadN X1.here hx rfl (hb hby d1_5) rfl k) ?_
  obtain ⟨T2, h2, X2, e2, W2, st2⟩ := putF X1 hx hZ hown (host := "") (Or.inl (hw _ (List.mem_of_getElem? (i := 15) rfl))) Via.refl eh1 Fr_tag Er (Or.inr ⟨(hw _ (List.mem_of_getElem? (i := 16) rfl)), rfl, hnm⟩) (hw _ (List.mem_of_getElem? (i := 2) rfl)) (ty := .int) (by decide) rfl rfl (g := (mkF m 6 #[.val (.ref a0r), .val (.int p1), .val (.long p2), .second, .val (.ref p3), .val (.long p4), .second] [(.int p1), (.ref a0r)])) rfl rfl (hb hby d1_6)
  have Fw2 := Fr_tag.same W2
  have N2 := Fr.snoc X2 N1 gr
  have O_2 := O0.wr W2 gr
  have K_2 := (Keep.refl h0 [a0r]).wr W2 (Or.inl (List.mem_of_getElem? (i := 0) rfl))
  refine Goes.step (B := T2.setTop (mkF m 9 #[.val (.ref a0r), .val (.int p1), .val (.long p2), .second, .val (.ref p3), .val (.long p4), .second] [])) st2 ?_
  refine Goes.step (B := T2.setTop (mkF m 10 #[.val (.ref a0r), .val (.int p1), .val (.long p2), .second, .val (.ref p3), .val (.long p4), .second] [(.ref a0r)])) (fun _ k => XS.aloadN X2.here hx rfl (hb hby d1_9) rfl rfl k) ?_
  refine Goes.step (B := T2.setTop (mkF m 11 #[.val (.ref a0r), .val (.int p1), .val (.long p2), .second, .val (.ref p3), .val (.long p4), .second] [(.long p2), (.ref a0r)])) (fun _ k => XS.lloadN X2.here hx rfl (hb hby d1_10) rfl k) ?_
  have f3 := (Er.wr W2)
  have f4 := (Fr_length.other W2 (Or.inr (slot_ne (Or.inr (hw _ (List.mem_of_getElem? (i := 18) rfl))) (Or.inr (hw _ (List.mem_of_getElem? (i := 16) rfl))) (by decide) (t := .long) (t' := .int) (by decide) (by decide))))
  obtain ⟨T5, h5, X5, e5, W5, st5⟩ := putF X2 hx hZ hown (host := "") (Or.inl (hw _ (List.mem_of_getElem? (i := 17) rfl))) Via.refl e2 f4 f3 (Or.inr ⟨(hw _ (List.mem_of_getElem? (i := 18) rfl)), rfl, hnm⟩) (hw _ (List.mem_of_getElem? (i := 2) rfl)) (ty := .long) (by decide) rfl rfl (g := (mkF m 11 #[.val (.ref a0r), .val (.int p1), .val (.long p2), .second, .val (.ref p3), .val (.long p4), .second] [(.long p2), (.ref a0r)])) rfl rfl (hb hby d1_11)
  have Fw5 := f4.same W5
  have N5 := Fr.snoc X5 N2 gr
  have O_5 := O_2.wr W5 gr
  have K_5 := K_2.wr W5 (Or.inl (List.mem_of_getElem? (i := 0) rfl))
  refine Goes.step (B := T5.setTop (mkF m 14 #[.val (.ref a0r), .val (.int p1), .val (.long p2), .second, .val (.ref p3), .val (.long p4), .second] [])) st5 ?_
  refine Goes.step (B := T5.setTop (mkF m 15 #[.val (.ref a0r), .val (.int p1), .val (.long p2), .second, .val (.ref p3), .val (.long p4), .second] [(.ref a0r)])) (fun _ k => XS.aloadN X5.here hx rfl (hb hby d1_14) rfl rfl k) ?_
  refine Goes.step (B := T5.setTop (mkF m 17 #[.val (.ref a0r), .val (.int p1), .val (.long p2), .second, .val (.ref p3), .val (.long p4), .second] [(.ref p3), (.ref a0r)])) (fun _ k => XS.aload X5.here hx rfl (hb hby d1_15) rfl rfl k) ?_
  have f6 := (f3.wr W5)
  have f7 := ((Fr_head.other W2 (Or.inr (slot_ne (Or.inr (hw _ (List.mem_of_getElem? (i := 20) rfl))) (Or.inr (hw _ (List.mem_of_getElem? (i := 16) rfl))) (by decide) (t := (.array .byte)) (t' := .int) (by decide) (by decide)))).other W5 (Or.inr (slot_ne (Or.inr (hw _ (List.mem_of_getElem? (i := 20) rfl))) (Or.inr (hw _ (List.mem_of_getElem? (i := 18) rfl))) (by decide) (t := (.array .byte)) (t' := .long) (by decide) (by decide))))
  obtain ⟨T8, h8, X8, e8, W8, st8⟩ := putF X5 hx hZ hown (host := "") (Or.inl (hw _ (List.mem_of_getElem? (i := 19) rfl))) Via.refl e5 f7 f6 (Or.inr ⟨(hw _ (List.mem_of_getElem? (i := 20) rfl)), rfl, hnm⟩) (hw _ (List.mem_of_getElem? (i := 2) rfl)) (ty := (.array .byte)) (by decide) rfl rfl (g := (mkF m 17 #[.val (.ref a0r), .val (.int p1), .val (.long p2), .second, .val (.ref p3), .val (.long p4), .second] [(.ref p3), (.ref a0r)])) rfl rfl (hb hby d1_17)
  have Fw8 := f7.same W8
  have N8 := Fr.snoc X8 N5 gr
  have O_8 := O_5.wr W8 gr
  have K_8 := K_5.wr W8 (Or.inl (List.mem_of_getElem? (i := 0) rfl))
  refine Goes.step (B := T8.setTop (mkF m 20 #[.val (.ref a0r), .val (.int p1), .val (.long p2), .second, .val (.ref p3), .val (.long p4), .second] [])) st8 ?_
  refine Goes.step (B := T8.setTop (mkF m 21 #[.val (.ref a0r), .val (.int p1), .val (.long p2), .second, .val (.ref p3), .val (.long p4), .second] [(.ref a0r)])) (fun _ k => XS.aloadN X8.here hx rfl (hb hby d1_20) rfl rfl k) ?_
  refine Goes.step (B := T8.setTop (mkF m 23 #[.val (.ref a0r), .val (.int p1), .val (.long p2), .second, .val (.ref p3), .val (.long p4), .second] [(.long p4), (.ref a0r)])) (fun _ k => XS.lload X8.here hx rfl (hb hby d1_21) rfl k) ?_
  have f9 := (f6.wr W8)
  have f10 := (((Fr_contentStart.other W2 (Or.inr (slot_ne (Or.inr (hw _ (List.mem_of_getElem? (i := 22) rfl))) (Or.inr (hw _ (List.mem_of_getElem? (i := 16) rfl))) (by decide) (t := .long) (t' := .int) (by decide) (by decide)))).other W5 (Or.inr (slot_ne (Or.inr (hw _ (List.mem_of_getElem? (i := 22) rfl))) (Or.inr (hw _ (List.mem_of_getElem? (i := 18) rfl))) (by decide) (t := .long) (t' := .long) (by decide) (by decide)))).other W8 (Or.inr (slot_ne (Or.inr (hw _ (List.mem_of_getElem? (i := 22) rfl))) (Or.inr (hw _ (List.mem_of_getElem? (i := 20) rfl))) (by decide) (t := .long) (t' := (.array .byte)) (by decide) (by decide))))
  obtain ⟨T11, h11, X11, e11, W11, st11⟩ := putF X8 hx hZ hown (host := "") (Or.inl (hw _ (List.mem_of_getElem? (i := 21) rfl))) Via.refl e8 f10 f9 (Or.inr ⟨(hw _ (List.mem_of_getElem? (i := 22) rfl)), rfl, hnm⟩) (hw _ (List.mem_of_getElem? (i := 2) rfl)) (ty := .long) (by decide) rfl rfl (g := (mkF m 23 #[.val (.ref a0r), .val (.int p1), .val (.long p2), .second, .val (.ref p3), .val (.long p4), .second] [(.long p4), (.ref a0r)])) rfl rfl (hb hby d1_23)
  have Fw11 := f10.same W11
  have N11 := Fr.snoc X11 N8 gr
  have O_11 := O_8.wr W11 gr
  have K_11 := K_8.wr W11 (Or.inl (List.mem_of_getElem? (i := 0) rfl))
  refine Goes.step (B := T11.setTop (mkF m 26 #[.val (.ref a0r), .val (.int p1), .val (.long p2), .second, .val (.ref p3), .val (.long p4), .second] [])) st11 ?_
  have f12 := (f9.wr W11)
  have f13 := (((Fw2.other W5 (Or.inr (slot_ne (Or.inr (hw _ (List.mem_of_getElem? (i := 16) rfl))) (Or.inr (hw _ (List.mem_of_getElem? (i := 18) rfl))) (by decide) (t := .int) (t' := .long) (by decide) (by decide)))).other W8 (Or.inr (slot_ne (Or.inr (hw _ (List.mem_of_getElem? (i := 16) rfl))) (Or.inr (hw _ (List.mem_of_getElem? (i := 20) rfl))) (by decide) (t := .int) (t' := (.array .byte)) (by decide) (by decide)))).other W11 (Or.inr (slot_ne (Or.inr (hw _ (List.mem_of_getElem? (i := 16) rfl))) (Or.inr (hw _ (List.mem_of_getElem? (i := 22) rfl))) (by decide) (t := .int) (t' := .long) (by decide) (by decide))))
  have f14 := ((Fw5.other W8 (Or.inr (slot_ne (Or.inr (hw _ (List.mem_of_getElem? (i := 18) rfl))) (Or.inr (hw _ (List.mem_of_getElem? (i := 20) rfl))) (by decide) (t := .long) (t' := (.array .byte)) (by decide) (by decide)))).other W11 (Or.inr (slot_ne (Or.inr (hw _ (List.mem_of_getElem? (i := 18) rfl))) (Or.inr (hw _ (List.mem_of_getElem? (i := 22) rfl))) (by decide) (t := .long) (t' := .long) (by decide) (by decide))))
  have f15 := (Fw8.other W11 (Or.inr (slot_ne (Or.inr (hw _ (List.mem_of_getElem? (i := 20) rfl))) (Or.inr (hw _ (List.mem_of_getElem? (i := 22) rfl))) (by decide) (t := (.array .byte)) (t' := .long) (by decide) (by decide))))
  exact Goes.retV X11 hx e11 Bd.returns hlk (hb hby d1_26) (by decide) (by decide) (⟨rfl, N11, K_11, f12, f13, f14, f15, Fw11⟩)
theorem d4_0 : decode prog_17_method_2_code 0 = .ok (.aload_n 0, 1) := by decide +kernel
theorem d4_1 : decode prog_17_method_2_code 1 = .ok (.getfield 7, 3) := by decide +kernel
theorem d4_4 : decode prog_17_method_2_code 4 = .ok (.bipush 32, 2) := by decide +kernel
theorem d4_6 : decode prog_17_method_2_code 6 = .ok (.iand, 1) := by decide +kernel
theorem d4_7 : decode prog_17_method_2_code 7 = .ok (.ifCond .eq 7, 3) := by decide +kernel
theorem d4_14 : decode prog_17_method_2_code 14 = .ok (.iconst 0, 1) := by decide +kernel
theorem d4_15 : decode prog_17_method_2_code 15 = .ok (.ireturn, 1) := by decide +kernel
theorem ef_rmc0 (m : MethodId) (x0 : Addr) : entryFrame m #[(.ref x0)] 1 = mkF m 0 #[.val (.ref x0)] [] := by first | (simp [entryFrame, mkF, argsToLocals, Value.category]; done) | rfl
def Qc0 (Z : State) (a1 : Addr) (tg : Int32) (h0 : Heap) (n0 : Nat) (v : Option Value) (h : Heap) (L : List Loc) : Prop := v = some (.int (0 : Int32)) ∧ Fr n0 L ∧ h = h0
set_option maxRecDepth 65536 in
set_option maxHeartbeats 40000000 in
theorem rmc0 (l : Launch) (Z : State) (a0 : Array Value) (hw : ∀ d ∈ tables_1, d.before a0 Z = true) (ws : List Jvm.Cond) (a1 : Addr) (tg : Int32) (h0 : Heap) (n0 : Nat) (O0 : Old Z n0 h0) (ht : tg &&& 32 = 0) (Ft : Fld Z h0 a1 "com/example/gridclear/gridclear/cms/Ber$Header" "tag" "I" (.int tg)) :
    MetFree l (⟨"com/example/gridclear/gridclear/cms/Ber$Header", "constructed", "()Z"⟩ : MethodName) (head1 (Jvm.Cond.code (⟨"com/example/gridclear/gridclear/cms/Ber$Header", "constructed", "()Z"⟩ : MethodName) prog_17_method_2_code 1 (some .boolean) :: ws) ({ frames := 0, cells := 0, slots := 0, locals := 0 } : Room)) (fun a U => a = #[(.ref a1)] ∧ Z.Warmed39 U.vm ∧ U.heap = h0) (fun _ _ _ _ _ => True) (fun _ U o U' => ∃ v L, o = .returned v ∧ Qc0 Z a1 tg h0 n0 v U'.heap L ∧ FrameEnd U o U' L ({ frames := 0, cells := 0, slots := 0, locals := 0 } : Room).cells ({ frames := 0, cells := 0, slots := 0, locals := 0 } : Room).slots) := by
  refine MetFree.of_bodySF (plainFor_of_name pn_Ber_Header) hisR ?_
  intro p e s m args below meth c s₁ Bd hml0 hP hK
  obtain ⟨rfl, hZ, hh⟩ := hP
  have hx := Bd.exec
  have hby := Bd.bytes
  have hlk : meth.locks = false := BodyLoose.notSynchronized Bd
  have hml : c.maxLocals = 1 := hml0
  have hown : s.vm.findClass "com/example/gridclear/gridclear/cms/Ber$Header" = some m.cls := findClass_of_methodNamed Bd.named
  have hnm := (name_of_methodNamed Bd.named Bd.method).1
  have X0 : Stand p l e ({ frames := 0, cells := 0, slots := 0, locals := 0 } : Room) s m #[(.ref a1)] below meth c s₁ [] 0 0 := Stand.of_body Bd
  have e0 : s₁.heap = h0 := by rw [← hh, Bd.state]; rfl
  have N0 := Fr.nil n0
  show Goes p e below s (Qc0 Z a1 tg h0 n0) ({ frames := 0, cells := 0, slots := 0, locals := 0 } : Room).cells ({ frames := 0, cells := 0, slots := 0, locals := 0 } : Room).slots (s₁.setTop (entryFrame m #[(.ref a1)] 1))
  refine Goes.enter (g' := (mkF m 0 #[.val (.ref a1)] [])) (ef_rmc0 m a1) ?_
  refine Goes.step (B := s₁.setTop (mkF m 1 #[.val (.ref a1)] [(.ref a1)])) (fun _ k => XS.aloadN X0.here hx rfl (hb hby d4_0) rfl rfl k) ?_
  obtain ⟨T1, X1, e1, st1⟩ := getF X0 hx hZ hown (host := "") (Or.inl (hw _ (List.mem_of_getElem? (i := 15) rfl))) Via.refl e0 Ft (g := (mkF m 1 #[.val (.ref a1)] [(.ref a1)])) rfl rfl (hb hby d4_1)
  refine Goes.step (B := T1.setTop (mkF m 4 #[.val (.ref a1)] [(.int tg)])) st1 ?_
  refine Goes.step (B := T1.setTop (mkF m 6 #[.val (.ref a1)] [(.int (32 : Int32)), (.int tg)])) (fun _ k => XS.bipush X1.here hx rfl (hb hby d4_4) k) ?_
  refine Goes.step (B := T1.setTop (mkF m 7 #[.val (.ref a1)] [(.int (tg &&& (32 : Int32)))])) (fun _ k => XS.iand X1.here hx rfl (hb hby d4_6) rfl k) ?_
  refine Goes.step (B := T1.setTop (mkF m 14 #[.val (.ref a1)] [])) (fun _ k => XS.ifYes X1.here hx rfl (pc0 := 7) (pc' := 14) rfl (hb hby d4_7) rfl ((if0 _ _).trans (teq ht).1) (by decide) (by decide) k) ?_
  refine Goes.step (B := T1.setTop (mkF m 15 #[.val (.ref a1)] [(.int (0 : Int32))])) (fun _ k => XS.iconst X1.here hx rfl (hb hby d4_14) k) ?_
  exact Goes.retN X1 hx e1 (t := .boolean) Bd.returns (by simp) hlk (hb hby d4_15) (by decide) (by decide) (⟨rfl, N0, rfl⟩)
theorem d4_10 : decode prog_17_method_2_code 10 = .ok (.iconst 1, 1) := by decide +kernel
theorem d4_11 : decode prog_17_method_2_code 11 = .ok (.goto 4, 3) := by decide +kernel
theorem ef_rmc1 (m : MethodId) (x0 : Addr) : entryFrame m #[(.ref x0)] 1 = mkF m 0 #[.val (.ref x0)] [] := by first | (simp [entryFrame, mkF, argsToLocals, Value.category]; done) | rfl
def Qc1 (Z : State) (a1 : Addr) (tg : Int32) (h0 : Heap) (n0 : Nat) (v : Option Value) (h : Heap) (L : List Loc) : Prop := v = some (.int (1 : Int32)) ∧ Fr n0 L ∧ h = h0
set_option maxRecDepth 65536 in
set_option maxHeartbeats 40000000 in
theorem rmc1 (l : Launch) (Z : State) (a0 : Array Value) (hw : ∀ d ∈ tables_1, d.before a0 Z = true) (ws : List Jvm.Cond) (a1 : Addr) (tg : Int32) (h0 : Heap) (n0 : Nat) (O0 : Old Z n0 h0) (ht : ¬ tg &&& 32 = 0) (Ft : Fld Z h0 a1 "com/example/gridclear/gridclear/cms/Ber$Header" "tag" "I" (.int tg)) :
    MetFree l (⟨"com/example/gridclear/gridclear/cms/Ber$Header", "constructed", "()Z"⟩ : MethodName) (head1 (Jvm.Cond.code (⟨"com/example/gridclear/gridclear/cms/Ber$Header", "constructed", "()Z"⟩ : MethodName) prog_17_method_2_code 1 (some .boolean) :: ws) ({ frames := 0, cells := 0, slots := 0, locals := 0 } : Room)) (fun a U => a = #[(.ref a1)] ∧ Z.Warmed39 U.vm ∧ U.heap = h0) (fun _ _ _ _ _ => True) (fun _ U o U' => ∃ v L, o = .returned v ∧ Qc1 Z a1 tg h0 n0 v U'.heap L ∧ FrameEnd U o U' L ({ frames := 0, cells := 0, slots := 0, locals := 0 } : Room).cells ({ frames := 0, cells := 0, slots := 0, locals := 0 } : Room).slots) := by
  refine MetFree.of_bodySF (plainFor_of_name pn_Ber_Header) hisR ?_
  intro p e s m args below meth c s₁ Bd hml0 hP hK
  obtain ⟨rfl, hZ, hh⟩ := hP
  have hx := Bd.exec
  have hby := Bd.bytes
  have hlk : meth.locks = false := BodyLoose.notSynchronized Bd
  have hml : c.maxLocals = 1 := hml0
  have hown : s.vm.findClass "com/example/gridclear/gridclear/cms/Ber$Header" = some m.cls := findClass_of_methodNamed Bd.named
  have hnm := (name_of_methodNamed Bd.named Bd.method).1
  have X0 : Stand p l e ({ frames := 0, cells := 0, slots := 0, locals := 0 } : Room) s m #[(.ref a1)] below meth c s₁ [] 0 0 := Stand.of_body Bd
  have e0 : s₁.heap = h0 := by rw [← hh, Bd.state]; rfl
  have N0 := Fr.nil n0
  show Goes p e below s (Qc1 Z a1 tg h0 n0) ({ frames := 0, cells := 0, slots := 0, locals := 0 } : Room).cells ({ frames := 0, cells := 0, slots := 0, locals := 0 } : Room).slots (s₁.setTop (entryFrame m #[(.ref a1)] 1))
  refine Goes.enter (g' := (mkF m 0 #[.val (.ref a1)] [])) (ef_rmc1 m a1) ?_
  refine Goes.step (B := s₁.setTop (mkF m 1 #[.val (.ref a1)] [(.ref a1)])) (fun _ k => XS.aloadN X0.here hx rfl (hb hby d4_0) rfl rfl k) ?_
  obtain ⟨T1, X1, e1, st1⟩ := getF X0 hx hZ hown (host := "") (Or.inl (hw _ (List.mem_of_getElem? (i := 15) rfl))) Via.refl e0 Ft (g := (mkF m 1 #[.val (.ref a1)] [(.ref a1)])) rfl rfl (hb hby d4_1)
  refine Goes.step (B := T1.setTop (mkF m 4 #[.val (.ref a1)] [(.int tg)])) st1 ?_
  refine Goes.step (B := T1.setTop (mkF m 6 #[.val (.ref a1)] [(.int (32 : Int32)), (.int tg)])) (fun _ k => XS.bipush X1.here hx rfl (hb hby d4_4) k) ?_
  refine Goes.step (B := T1.setTop (mkF m 7 #[.val (.ref a1)] [(.int (tg &&& (32 : Int32)))])) (fun _ k => XS.iand X1.here hx rfl (hb hby d4_6) rfl k) ?_
  refine Goes.step (B := T1.setTop (mkF m 10 #[.val (.ref a1)] [])) (fun _ k => XS.ifNo X1.here hx rfl (hb hby d4_7) rfl ((if0 _ _).trans (feq ht).1) k) ?_
  refine Goes.step (B := T1.setTop (mkF m 11 #[.val (.ref a1)] [(.int (1 : Int32))])) (fun _ k => XS.iconst X1.here hx rfl (hb hby d4_10) k) ?_
  refine Goes.step (B := T1.setTop (mkF m 15 #[.val (.ref a1)] [(.int (1 : Int32))])) (fun _ k => XS.goto X1.here hx rfl (pc0 := 11) (pc' := 15) rfl (hb hby d4_11) (by decide) (by decide) k) ?_
  exact Goes.retN X1 hx e1 (t := .boolean) Bd.returns (by simp) hlk (hb hby d4_15) (by decide) (by decide) (⟨rfl, N0, rfl⟩)
theorem d5_0 : decode prog_20_method_2_code 0 = .ok (.sipush 160, 3) := by decide +kernel
theorem d5_3 : decode prog_20_method_2_code 3 = .ok (.iload_n 0, 1) := by decide +kernel
theorem d5_4 : decode prog_20_method_2_code 4 = .ok (.ior, 1) := by decide +kernel
theorem d5_5 : decode prog_20_method_2_code 5 = .ok (.ireturn, 1) := by decide +kernel
theorem pn_Der : plainName "com/example/gridclear/gridclear/cms/Der" = true := by first | (simp [plainName, overriddenIn]; done) | decide +kernel
theorem ef_rm5 (m : MethodId) (x0 : Int32) : entryFrame m #[(.int x0)] 1 = mkF m 0 #[.val (.int x0)] [] := by first | (simp [entryFrame, mkF, argsToLocals, Value.category]; done) | rfl
def Q5 (Z : State) (p1 : Int32) (h0 : Heap) (n0 : Nat) (v : Option Value) (h : Heap) (L : List Loc) : Prop := v = some (.int ((160 : Int32) ||| p1)) ∧ Fr n0 L ∧ h = h0
set_option maxRecDepth 65536 in
set_option maxHeartbeats 40000000 in
theorem rm5 (l : Launch) (Z : State) (a0 : Array Value) (hw : ∀ d ∈ tables_1, d.before a0 Z = true) (ws : List Jvm.Cond) (p1 : Int32) (h0 : Heap) (n0 : Nat) (O0 : Old Z n0 h0) :
    MetFree l (⟨"com/example/gridclear/gridclear/cms/Der", "context", "(I)I"⟩ : MethodName) (head1 (Jvm.Cond.code (⟨"com/example/gridclear/gridclear/cms/Der", "context", "(I)I"⟩ : MethodName) prog_20_method_2_code 1 (some .int) :: ws) ({ frames := 0, cells := 0, slots := 0, locals := 0 } : Room)) (fun a U => a = #[(.int p1)] ∧ Z.Warmed39 U.vm ∧ U.heap = h0) (fun _ _ _ _ _ => True) (fun _ U o U' => ∃ v L, o = .returned v ∧ Q5 Z p1 h0 n0 v U'.heap L ∧ FrameEnd U o U' L ({ frames := 0, cells := 0, slots := 0, locals := 0 } : Room).cells ({ frames := 0, cells := 0, slots := 0, locals := 0 } : Room).slots) := by
  refine MetFree.of_bodySF (plainFor_of_name pn_Der) hisR ?_
  intro p e s m args below meth c s₁ Bd hml0 hP hK
  obtain ⟨rfl, hZ, hh⟩ := hP
  have hx := Bd.exec
  have hby := Bd.bytes
  have hlk : meth.locks = false := BodyLoose.notSynchronized Bd
  have hml : c.maxLocals = 1 := hml0
  have hown : s.vm.findClass "com/example/gridclear/gridclear/cms/Der" = some m.cls := findClass_of_methodNamed Bd.named
  have hnm := (name_of_methodNamed Bd.named Bd.method).1
  have X0 : Stand p l e ({ frames := 0, cells := 0, slots := 0, locals := 0 } : Room) s m #[(.int p1)] below meth c s₁ [] 0 0 := Stand.of_body Bd
  have e0 : s₁.heap = h0 := by rw [← hh, Bd.state]; rfl
  have N0 := Fr.nil n0
  show Goes p e below s (Q5 Z p1 h0 n0) ({ frames := 0, cells := 0, slots := 0, locals := 0 } : Room).cells ({ frames := 0, cells := 0, slots := 0, locals := 0 } : Room).slots (s₁.setTop (entryFrame m #[(.int p1)] 1))
  refine Goes.enter (g' := (mkF m 0 #[.val (.int p1)] [])) (ef_rm5 m p1) ?_
  refine Goes.step (B := s₁.setTop (mkF m 3 #[.val (.int p1)] [(.int (160 : Int32))])) (fun _ k => XS.sipush X0.here hx rfl (hb hby d5_0) k) ?_
  refine Goes.step (B := s₁.setTop (mkF m 4 #[.val (.int p1)] [(.int p1), (.int (160 : Int32))])) (fun _ k => XS.iloadN X0.here hx rfl (hb hby d5_3) rfl k) ?_
  refine Goes.step (B := s₁.setTop (mkF m 5 #[.val (.int p1)] [(.int ((160 : Int32) ||| p1))])) (fun _ k => XS.ior X0.here hx rfl (hb hby d5_4) rfl k) ?_
  exact Goes.retI X0 hx e0 Bd.returns hlk (hb hby d5_5) (by decide) (by decide) (⟨rfl, N0, rfl⟩)
theorem d6_0 : decode prog_20_method_3_code 0 = .ok (.sipush 128, 3) := by decide +kernel
theorem d6_3 : decode prog_20_method_3_code 3 = .ok (.iload_n 0, 1) := by decide +kernel
theorem d6_4 : decode prog_20_method_3_code 4 = .ok (.ior, 1) := by decide +kernel
theorem d6_5 : decode prog_20_method_3_code 5 = .ok (.ireturn, 1) := by decide +kernel
theorem ef_rm6 (m : MethodId) (x0 : Int32) : entryFrame m #[(.int x0)] 1 = mkF m 0 #[.val (.int x0)] [] := by first | (simp [entryFrame, mkF, argsToLocals, Value.category]; done) | rfl
def Q6 (Z : State) (p1 : Int32) (h0 : Heap) (n0 : Nat) (v : Option Value) (h : Heap) (L : List Loc) : Prop := v = some (.int ((128 : Int32) ||| p1)) ∧ Fr n0 L ∧ h = h0
set_option maxRecDepth 65536 in
set_option maxHeartbeats 40000000 in
theorem rm6 (l : Launch) (Z : State) (a0 : Array Value) (hw : ∀ d ∈ tables_1, d.before a0 Z = true) (ws : List Jvm.Cond) (p1 : Int32) (h0 : Heap) (n0 : Nat) (O0 : Old Z n0 h0) :
    MetFree l (⟨"com/example/gridclear/gridclear/cms/Der", "contextPrimitive", "(I)I"⟩ : MethodName) (head1 (Jvm.Cond.code (⟨"com/example/gridclear/gridclear/cms/Der", "contextPrimitive", "(I)I"⟩ : MethodName) prog_20_method_3_code 1 (some .int) :: ws) ({ frames := 0, cells := 0, slots := 0, locals := 0 } : Room)) (fun a U => a = #[(.int p1)] ∧ Z.Warmed39 U.vm ∧ U.heap = h0) (fun _ _ _ _ _ => True) (fun _ U o U' => ∃ v L, o = .returned v ∧ Q6 Z p1 h0 n0 v U'.heap L ∧ FrameEnd U o U' L ({ frames := 0, cells := 0, slots := 0, locals := 0 } : Room).cells ({ frames := 0, cells := 0, slots := 0, locals := 0 } : Room).slots) := by
  refine MetFree.of_bodySF (plainFor_of_name pn_Der) hisR ?_
  intro p e s m args below meth c s₁ Bd hml0 hP hK
  obtain ⟨rfl, hZ, hh⟩ := hP
  have hx := Bd.exec
  have hby := Bd.bytes
  have hlk : meth.locks = false := BodyLoose.notSynchronized Bd
  have hml : c.maxLocals = 1 := hml0
  have hown : s.vm.findClass "com/example/gridclear/gridclear/cms/Der" = some m.cls := findClass_of_methodNamed Bd.named
  have hnm := (name_of_methodNamed Bd.named Bd.method).1
  have X0 : Stand p l e ({ frames := 0, cells := 0, slots := 0, locals := 0 } : Room) s m #[(.int p1)] below meth c s₁ [] 0 0 := Stand.of_body Bd
  have e0 : s₁.heap = h0 := by rw [← hh, Bd.state]; rfl
  have N0 := Fr.nil n0
  show Goes p e below s (Q6 Z p1 h0 n0) ({ frames := 0, cells := 0, slots := 0, locals := 0 } : Room).cells ({ frames := 0, cells := 0, slots := 0, locals := 0 } : Room).slots (s₁.setTop (entryFrame m #[(.int p1)] 1))
  refine Goes.enter (g' := (mkF m 0 #[.val (.int p1)] [])) (ef_rm6 m p1) ?_
  refine Goes.step (B := s₁.setTop (mkF m 3 #[.val (.int p1)] [(.int (128 : Int32))])) (fun _ k => XS.sipush X0.here hx rfl (hb hby d6_0) k) ?_
  refine Goes.step (B := s₁.setTop (mkF m 4 #[.val (.int p1)] [(.int p1), (.int (128 : Int32))])) (fun _ k => XS.iloadN X0.here hx rfl (hb hby d6_3) rfl k) ?_
  refine Goes.step (B := s₁.setTop (mkF m 5 #[.val (.int p1)] [(.int ((128 : Int32) ||| p1))])) (fun _ k => XS.ior X0.here hx rfl (hb hby d6_4) rfl k) ?_
  exact Goes.retI X0 hx e0 Bd.returns hlk (hb hby d6_5) (by decide) (by decide) (⟨rfl, N0, rfl⟩)
theorem pd_1 : parseMethodDescriptor "(IJ[BJ)V" = some ⟨[.int, .long, (.array .byte), .long], none⟩ := by decide +kernel
theorem pd_2 : parseMethodDescriptor "()Z" = some ⟨[], some .boolean⟩ := by decide +kernel
theorem pd_3 : parseMethodDescriptor "(I)I" = some ⟨[.int], some .int⟩ := by decide +kernel
theorem pn_HeaderConstructedPinLaw : plainName "com/example/gridclear/gridclear/cms/HeaderConstructedPinLaw" = true := by first | (simp [plainName, overriddenIn]; done) | decide +kernel
theorem ef_rm0 (m : MethodId) (x0 : Int32) (x1 : Int64) (x2 : Int64) (x3 : Int32) (x4 : Int32) : entryFrame m #[(.int x0), (.long x1), (.long x2), (.int x3), (.int x4)] maxLocals = mkF m 0 #[.val (.int x0), .val (.long x1), .second, .val (.long x2), .second, .val (.int x3), .val (.int x4), .unset, .unset, .unset, .unset, .unset, .unset, .unset, .unset, .unset] [] := by first | (simp [entryFrame, mkF, argsToLocals, Value.category, maxLocals]; done) | rfl
def Q0 (Z : State) (i0 : Int32) (i1 : Int64) (i2 : Int64) (i3 : Int32) (i4 : Int32) (h0 : Heap) (n0 : Nat) (v : Option Value) (h : Heap) (L : List Loc) : Prop := v = some (.int 1) ∧ Fr n0 L
set_option maxRecDepth 65536 in
set_option maxHeartbeats 40000000 in
theorem rm0 (l : Launch) (Z : State) (a0 : Array Value) (hw : ∀ d ∈ tables_1, d.before a0 Z = true) (ws : List Jvm.Cond) (i0 : Int32) (i1 : Int64) (i2 : Int64) (i3 : Int32) (i4 : Int32) (h0 : Heap) (n0 : Nat) (O0 : Old Z n0 h0) :
    MetFree l x (head1 (Jvm.Cond.code x code maxLocals ret :: ws) room_1) (fun a U => a = #[(.int i0), (.long i1), (.long i2), (.int i3), (.int i4)] ∧ Z.Warmed39 U.vm ∧ U.heap = h0) (fun _ _ _ _ _ => True) (fun _ U o U' => ∃ v L, o = .returned v ∧ Q0 Z i0 i1 i2 i3 i4 h0 n0 v U'.heap L ∧ FrameEnd U o U' L room_1.cells room_1.slots) := by
  refine MetFree.of_bodySF (plainFor_of_name pn_HeaderConstructedPinLaw) hisR ?_
  intro p e s m args below meth c s₁ Bd hml0 hP hK
  obtain ⟨rfl, hZ, hh⟩ := hP
  have hx := Bd.exec
  have hby := Bd.bytes
  have hlk : meth.locks = false := BodyLoose.notSynchronized Bd
  have hml : c.maxLocals = 16 := hml0
  have hown : s.vm.findClass "com/example/gridclear/gridclear/cms/HeaderConstructedPinLaw" = some m.cls := findClass_of_methodNamed Bd.named
  have hnm := (name_of_methodNamed Bd.named Bd.method).1
  have X0 : Stand p l e room_1 s m #[(.int i0), (.long i1), (.long i2), (.int i3), (.int i4)] below meth c s₁ [] 0 0 := Stand.of_body Bd
  have e0 : s₁.heap = h0 := by rw [← hh, Bd.state]; rfl
  have N0 := Fr.nil n0
  show Goes p e below s (Q0 Z i0 i1 i2 i3 i4 h0 n0) room_1.cells room_1.slots (s₁.setTop (entryFrame m #[(.int i0), (.long i1), (.long i2), (.int i3), (.int i4)] maxLocals))
  refine Goes.enter (g' := (mkF m 0 #[.val (.int i0), .val (.long i1), .second, .val (.long i2), .second, .val (.int i3), .val (.int i4), .unset, .unset, .unset, .unset, .unset, .unset, .unset, .unset, .unset] [])) (ef_rm0 m i0 i1 i2 i3 i4) ?_
  have q63 := own_63 i0
  have q31 := own_31 i4
  by_cases hbt : i0 &&& 32 = 0
  · have hx1 : ¬ ((i0 ^^^ (32 : Int32)) &&& 32 = 0) := fun q => (q63.2 ▸ q) hbt
    have hlt : (i0 &&& (63 : Int32)) < (32 : Int32) := q63.1 ▸ hbt
    refine Goes.step (B := s₁.setTop (mkF m 1 #[.val (.int i0), .val (.long i1), .second, .val (.long i2), .second, .val (.int i3), .val (.int i4), .unset, .unset, .unset, .unset, .unset, .unset, .unset, .unset, .unset] [(.int (2 : Int32))])) (fun _ k => XS.iconst X0.here hx rfl (hb hby at_0) k) ?_
    obtain ⟨T1, h1, k1, X1, e1, E1, A1, st1⟩ := newP X0 hx hZ (hw _ (List.mem_of_getElem? (i := 0) rfl)) e0 (g := (mkF m 1 #[.val (.int i0), .val (.long i1), .second, .val (.long i2), .second, .val (.int i3), .val (.int i4), .unset, .unset, .unset, .unset, .unset, .unset, .unset, .unset, .unset] [(.int (2 : Int32))])) rfl (hb hby at_1) rfl (by decide) (cap := 2) (by decide) (by decide) (by decide) (by decide)
    obtain ⟨b1, g1⟩ : ∃ z, z = h0.size := ⟨_, rfl⟩
    rw [← g1] at A1 st1
    have g_b1 : n0 ≤ b1 := Nat.le_trans (own_z O0) (Nat.le_of_eq g1.symm)
    have O_1 := O0.ext E1
    have V_b1 : Arv Z h1 b1 k1 .byte (2 : Int32) [(.int (0 : Int32)), (.int (0 : Int32))] (.int (0 : Int32)) := (Arv.new A1 (by decide)).pad (pad_rep [] (.int (0 : Int32)) 2)
    refine Goes.step (B := T1.setTop (mkF m 3 #[.val (.int i0), .val (.long i1), .second, .val (.long i2), .second, .val (.int i3), .val (.int i4), .unset, .unset, .unset, .unset, .unset, .unset, .unset, .unset, .unset] [(.ref b1)])) st1 ?_
    refine Goes.step (B := T1.setTop (mkF m 4 #[.val (.int i0), .val (.long i1), .second, .val (.long i2), .second, .val (.int i3), .val (.int i4), .unset, .unset, .unset, .unset, .unset, .unset, .unset, .unset, .unset] [(.ref b1), (.ref b1)])) (fun _ k => XS.dup X1.here hx rfl (hb hby at_3) rfl rfl k) ?_
    refine Goes.step (B := T1.setTop (mkF m 5 #[.val (.int i0), .val (.long i1), .second, .val (.long i2), .second, .val (.int i3), .val (.int i4), .unset, .unset, .unset, .unset, .unset, .unset, .unset, .unset, .unset] [(.int (0 : Int32)), (.ref b1), (.ref b1)])) (fun _ k => XS.iconst X1.here hx rfl (hb hby at_4) k) ?_
    refine Goes.step (B := T1.setTop (mkF m 6 #[.val (.int i0), .val (.long i1), .second, .val (.long i2), .second, .val (.int i3), .val (.int i4), .unset, .unset, .unset, .unset, .unset, .unset, .unset, .unset, .unset] [(.int i0), (.int (0 : Int32)), (.ref b1), (.ref b1)])) (fun _ k => XS.iloadN X1.here hx rfl (hb hby at_5) rfl k) ?_
    refine Goes.step (B := T1.setTop (mkF m 7 #[.val (.int i0), .val (.long i1), .second, .val (.long i2), .second, .val (.int i3), .val (.int i4), .unset, .unset, .unset, .unset, .unset, .unset, .unset, .unset, .unset] [(.int (i0.toInt8.toInt32)), (.int (0 : Int32)), (.ref b1), (.ref b1)])) (fun _ k => XS.i2b X1.here hx rfl (hb hby at_6) rfl k) ?_
    obtain ⟨c2, Ar2, q2, Sz2, Nn2, Hs2, Gs2⟩ := V_b1
    have hin2 : ¬ ((0 : Int32) < 0 ∨ c2.slots.size ≤ ((0 : Int32)).toNatClampNeg) := inb_of Sz2 ⟨by decide, by decide⟩
    obtain ⟨T2, h2, X2, e2, W2, st2⟩ := stB X1 hx hZ e1 Ar2 (j := (0 : Int32)) hin2 (g := (mkF m 7 #[.val (.int i0), .val (.long i1), .second, .val (.long i2), .second, .val (.int i3), .val (.int i4), .unset, .unset, .unset, .unset, .unset, .unset, .unset, .unset, .unset] [(.int (i0.toInt8.toInt32)), (.int (0 : Int32)), (.ref b1), (.ref b1)])) rfl rfl (hb hby at_7)
    have V2 : Arv Z h2 b1 k1 .byte (2 : Int32) [(.int (nar .byte (i0.toInt8.toInt32))), (.int (0 : Int32))] (.int (0 : Int32)) := Arv.set Ar2 q2 Sz2 Nn2 Hs2 Gs2 (fits_nar_byte _) W2 0 rfl (Nat.le_of_ble_eq_true rfl)
    have N2 := Fr.snoc X2 N0 g_b1
    have O_2 := O_1.wr W2 g_b1
    refine Goes.step (B := T2.setTop (mkF m 8 #[.val (.int i0), .val (.long i1), .second, .val (.long i2), .second, .val (.int i3), .val (.int i4), .unset, .unset, .unset, .unset, .unset, .unset, .unset, .unset, .unset] [(.ref b1)])) st2 ?_
    refine Goes.step (B := T2.setTop (mkF m 9 #[.val (.int i0), .val (.long i1), .second, .val (.long i2), .second, .val (.int i3), .val (.int i4), .unset, .unset, .unset, .unset, .unset, .unset, .unset, .unset, .unset] [(.ref b1), (.ref b1)])) (fun _ k => XS.dup X2.here hx rfl (hb hby at_8) rfl rfl k) ?_
    refine Goes.step (B := T2.setTop (mkF m 10 #[.val (.int i0), .val (.long i1), .second, .val (.long i2), .second, .val (.int i3), .val (.int i4), .unset, .unset, .unset, .unset, .unset, .unset, .unset, .unset, .unset] [(.int (1 : Int32)), (.ref b1), (.ref b1)])) (fun _ k => XS.iconst X2.here hx rfl (hb hby at_9) k) ?_
    refine Goes.step (B := T2.setTop (mkF m 12 #[.val (.int i0), .val (.long i1), .second, .val (.long i2), .second, .val (.int i3), .val (.int i4), .unset, .unset, .unset, .unset, .unset, .unset, .unset, .unset, .unset] [(.int i3), (.int (1 : Int32)), (.ref b1), (.ref b1)])) (fun _ k => XS.iload X2.here hx rfl (hb hby at_10) rfl k) ?_
    refine Goes.step (B := T2.setTop (mkF m 13 #[.val (.int i0), .val (.long i1), .second, .val (.long i2), .second, .val (.int i3), .val (.int i4), .unset, .unset, .unset, .unset, .unset, .unset, .unset, .unset, .unset] [(.int (i3.toInt8.toInt32)), (.int (1 : Int32)), (.ref b1), (.ref b1)])) (fun _ k => XS.i2b X2.here hx rfl (hb hby at_12) rfl k) ?_
    obtain ⟨c3, Ar3, q3, Sz3, Nn3, Hs3, Gs3⟩ := V2
    have hin3 : ¬ ((1 : Int32) < 0 ∨ c3.slots.size ≤ ((1 : Int32)).toNatClampNeg) := inb_of Sz3 ⟨by decide, by decide⟩
    obtain ⟨T3, h3, X3, e3, W3, st3⟩ := stB X2 hx hZ e2 Ar3 (j := (1 : Int32)) hin3 (g := (mkF m 13 #[.val (.int i0), .val (.long i1), .second, .val (.long i2), .second, .val (.int i3), .val (.int i4), .unset, .unset, .unset, .unset, .unset, .unset, .unset, .unset, .unset] [(.int (i3.toInt8.toInt32)), (.int (1 : Int32)), (.ref b1), (.ref b1)])) rfl rfl (hb hby at_13)
    have V3 : Arv Z h3 b1 k1 .byte (2 : Int32) [(.int (nar .byte (i0.toInt8.toInt32))), (.int (nar .byte (i3.toInt8.toInt32)))] (.int (0 : Int32)) := Arv.set Ar3 q3 Sz3 Nn3 Hs3 Gs3 (fits_nar_byte _) W3 1 rfl (Nat.le_of_ble_eq_true rfl)
    have N3 := Fr.snoc X3 N2 g_b1
    have O_3 := O_2.wr W3 g_b1
    refine Goes.step (B := T3.setTop (mkF m 14 #[.val (.int i0), .val (.long i1), .second, .val (.long i2), .second, .val (.int i3), .val (.int i4), .unset, .unset, .unset, .unset, .unset, .unset, .unset, .unset, .unset] [(.ref b1)])) st3 ?_
    refine Goes.step (B := T3.setTop (mkF m 16 #[.val (.int i0), .val (.long i1), .second, .val (.long i2), .second, .val (.int i3), .val (.int i4), .val (.ref b1), .unset, .unset, .unset, .unset, .unset, .unset, .unset, .unset] [])) (fun _ k => XS.astore X3.here hx rfl (hb hby at_14) rfl rfl (l' := #[.val (.int i0), .val (.long i1), .second, .val (.long i2), .second, .val (.int i3), .val (.int i4), .val (.ref b1), .unset, .unset, .unset, .unset, .unset, .unset, .unset, .unset]) rfl k) ?_
    obtain ⟨T4, h4, X4, e4, E4, A4, D4, -, st4⟩ := newO X3 hx hZ hown (hw _ (List.mem_of_getElem? (i := 1) rfl)) (hw _ (List.mem_of_getElem? (i := 2) rfl)) (hw _ (List.mem_of_getElem? (i := 3) rfl)) e3 (g := (mkF m 16 #[.val (.int i0), .val (.long i1), .second, .val (.long i2), .second, .val (.int i3), .val (.int i4), .val (.ref b1), .unset, .unset, .unset, .unset, .unset, .unset, .unset, .unset] [])) rfl (hb hby at_16) (by decide) (by decide)
    obtain ⟨b4, g4⟩ : ∃ z, z = h3.size := ⟨_, rfl⟩
    rw [← g4] at A4 D4 st4
    have ne_b1_b4 : b1 ≠ b4 := Nat.ne_of_lt (Nat.lt_of_lt_of_le V3.lt (Nat.le_of_eq g4.symm))
    have g_b4 : n0 ≤ b4 := Nat.le_trans (own_z O_3) (Nat.le_of_eq g4.symm)
    have O_4 := O_3.ext E4
    have F4_tag : Fld Z h4 b4 "com/example/gridclear/gridclear/cms/Ber$Header" "tag" "I" (.int (0 : Int32)) := D4 (Or.inr (hw _ (List.mem_of_getElem? (i := 16) rfl))) (ty := .int) (by decide)
    have F4_length : Fld Z h4 b4 "com/example/gridclear/gridclear/cms/Ber$Header" "length" "J" (.long (0 : Int64)) := D4 (Or.inr (hw _ (List.mem_of_getElem? (i := 18) rfl))) (ty := .long) (by decide)
    have F4_head : Fld Z h4 b4 "com/example/gridclear/gridclear/cms/Ber$Header" "head" "[B" .null := D4 (Or.inr (hw _ (List.mem_of_getElem? (i := 20) rfl))) (ty := (.array .byte)) (by decide)
    have F4_contentStart : Fld Z h4 b4 "com/example/gridclear/gridclear/cms/Ber$Header" "contentStart" "J" (.long (0 : Int64)) := D4 (Or.inr (hw _ (List.mem_of_getElem? (i := 22) rfl))) (ty := .long) (by decide)
    refine Goes.step (B := T4.setTop (mkF m 19 #[.val (.int i0), .val (.long i1), .second, .val (.long i2), .second, .val (.int i3), .val (.int i4), .val (.ref b1), .unset, .unset, .unset, .unset, .unset, .unset, .unset, .unset] [(.ref b4)])) st4 ?_
    refine Goes.step (B := T4.setTop (mkF m 20 #[.val (.int i0), .val (.long i1), .second, .val (.long i2), .second, .val (.int i3), .val (.int i4), .val (.ref b1), .unset, .unset, .unset, .unset, .unset, .unset, .unset, .unset] [(.ref b4), (.ref b4)])) (fun _ k => XS.dup X4.here hx rfl (hb hby at_19) rfl rfl k) ?_
    refine Goes.step (B := T4.setTop (mkF m 21 #[.val (.int i0), .val (.long i1), .second, .val (.long i2), .second, .val (.int i3), .val (.int i4), .val (.ref b1), .unset, .unset, .unset, .unset, .unset, .unset, .unset, .unset] [(.int i0), (.ref b4), (.ref b4)])) (fun _ k => XS.iloadN X4.here hx rfl (hb hby at_20) rfl k) ?_
    refine Goes.step (B := T4.setTop (mkF m 22 #[.val (.int i0), .val (.long i1), .second, .val (.long i2), .second, .val (.int i3), .val (.int i4), .val (.ref b1), .unset, .unset, .unset, .unset, .unset, .unset, .unset, .unset] [(.long i1), (.int i0), (.ref b4), (.ref b4)])) (fun _ k => XS.lloadN X4.here hx rfl (hb hby at_21) rfl k) ?_
    refine Goes.step (B := T4.setTop (mkF m 24 #[.val (.int i0), .val (.long i1), .second, .val (.long i2), .second, .val (.int i3), .val (.int i4), .val (.ref b1), .unset, .unset, .unset, .unset, .unset, .unset, .unset, .unset] [(.ref b1), (.long i1), (.int i0), (.ref b4), (.ref b4)])) (fun _ k => XS.aload X4.here hx rfl (hb hby at_22) rfl rfl k) ?_
    refine Goes.step (B := T4.setTop (mkF m 25 #[.val (.int i0), .val (.long i1), .second, .val (.long i2), .second, .val (.int i3), .val (.int i4), .val (.ref b1), .unset, .unset, .unset, .unset, .unset, .unset, .unset, .unset] [(.long i2), (.ref b1), (.long i1), (.int i0), (.ref b4), (.ref b4)])) (fun _ k => XS.lloadN X4.here hx rfl (hb hby at_24) rfl k) ?_
    obtain ⟨_, _, ⟨T5, L5, k5, n5⟩, -, X5, ⟨Lc5, hQ5, l5, y5, z5⟩, st5⟩ := X4.specialBack hx (y := (⟨"com/example/gridclear/gridclear/cms/Ber$Header", "<init>", "(IJ[BJ)V"⟩ : MethodName)) rfl hown (mvT hZ (hw _ (List.mem_of_getElem? (i := 4) rfl))) (mvT hZ (hw _ (List.mem_of_getElem? (i := 5) rfl))) (mvT hZ (hw _ (List.mem_of_getElem? (i := 6) rfl))) (by decide) (backOf (W := 1) (rm1 l Z a0 hw [] b4 i0 i1 b1 i2 h4 n0 O_4 A4 g_b4 F4_tag F4_length F4_head F4_contentStart) hZ (hw _ (List.mem_of_getElem? (i := 6) rfl)) (hw _ (List.mem_of_getElem? (i := 3) rfl)) (by decide) (by decide)) (g := (mkF m 25 #[.val (.int i0), .val (.long i1), .second, .val (.long i2), .second, .val (.int i3), .val (.int i4), .val (.ref b1), .unset, .unset, .unset, .unset, .unset, .unset, .unset, .unset] [(.long i2), (.ref b1), (.long i1), (.int i0), (.ref b4), (.ref b4)])) rfl (by rw [hml]; rfl) (Steps.refl _) (a := b4) (argsL := [(.int i0), (.long i1), (.ref b1), (.long i2)]) (rest := [(.ref b4)]) (lenOf pd_1 rfl) rfl (by show 2 * 0 + _ ≤ _; exact Nat.le_of_eq rfl) (hb hby at_25) (fun _ _ => ⟨rfl, e4, (by decide : 2 + 0 ≤ _), (by decide : 6 + 0 ≤ _)⟩)
    dsimp only [Pt.U, Pt.locs, Pt.cells, Pt.slots] at X5 l5 y5 z5 st5 hQ5
    subst l5 y5 z5
    obtain ⟨rfl, Nq5, Kp5, Ex5, Fc5_tag, Fc5_length, Fc5_head, Fc5_contentStart⟩ := hQ5
    have O_5 := O_4.keep Kp5 (allS g_b4 all0)
    have N5 := Fr.app N3 Nq5
    refine Goes.via (B := T5.setTop (mkF m 28 #[.val (.int i0), .val (.long i1), .second, .val (.long i2), .second, .val (.int i3), .val (.int i4), .val (.ref b1), .unset, .unset, .unset, .unset, .unset, .unset, .unset, .unset] [(.ref b4)])) st5 ?_
    refine Goes.step (B := T5.setTop (mkF m 30 #[.val (.int i0), .val (.long i1), .second, .val (.long i2), .second, .val (.int i3), .val (.int i4), .val (.ref b1), .val (.ref b4), .unset, .unset, .unset, .unset, .unset, .unset, .unset] [])) (fun _ k => XS.astore X5.here hx rfl (hb hby at_28) rfl rfl (l' := #[.val (.int i0), .val (.long i1), .second, .val (.long i2), .second, .val (.int i3), .val (.int i4), .val (.ref b1), .val (.ref b4), .unset, .unset, .unset, .unset, .unset, .unset, .unset]) rfl k) ?_
    refine Goes.step (B := T5.setTop (mkF m 31 #[.val (.int i0), .val (.long i1), .second, .val (.long i2), .second, .val (.int i3), .val (.int i4), .val (.ref b1), .val (.ref b4), .unset, .unset, .unset, .unset, .unset, .unset, .unset] [(.int i0)])) (fun _ k => XS.iloadN X5.here hx rfl (hb hby at_30) rfl k) ?_
    refine Goes.step (B := T5.setTop (mkF m 33 #[.val (.int i0), .val (.long i1), .second, .val (.long i2), .second, .val (.int i3), .val (.int i4), .val (.ref b1), .val (.ref b4), .unset, .unset, .unset, .unset, .unset, .unset, .unset] [(.int (63 : Int32)), (.int i0)])) (fun _ k => XS.bipush X5.here hx rfl (hb hby at_31) k) ?_
    refine Goes.step (B := T5.setTop (mkF m 34 #[.val (.int i0), .val (.long i1), .second, .val (.long i2), .second, .val (.int i3), .val (.int i4), .val (.ref b1), .val (.ref b4), .unset, .unset, .unset, .unset, .unset, .unset, .unset] [(.int (i0 &&& (63 : Int32)))])) (fun _ k => XS.iand X5.here hx rfl (hb hby at_33) rfl k) ?_
    refine Goes.step (B := T5.setTop (mkF m 36 #[.val (.int i0), .val (.long i1), .second, .val (.long i2), .second, .val (.int i3), .val (.int i4), .val (.ref b1), .val (.ref b4), .unset, .unset, .unset, .unset, .unset, .unset, .unset] [(.int (32 : Int32)), (.int (i0 &&& (63 : Int32)))])) (fun _ k => XS.bipush X5.here hx rfl (hb hby at_34) k) ?_
    refine Goes.step (B := T5.setTop (mkF m 43 #[.val (.int i0), .val (.long i1), .second, .val (.long i2), .second, .val (.int i3), .val (.int i4), .val (.ref b1), .val (.ref b4), .unset, .unset, .unset, .unset, .unset, .unset, .unset] [])) (fun _ k => XS.icmpYes X5.here hx rfl (pc0 := 36) (pc' := 43) rfl (hb hby at_36) rfl (tlt hlt).1 (by decide) (by decide) k) ?_
    refine Goes.step (B := T5.setTop (mkF m 44 #[.val (.int i0), .val (.long i1), .second, .val (.long i2), .second, .val (.int i3), .val (.int i4), .val (.ref b1), .val (.ref b4), .unset, .unset, .unset, .unset, .unset, .unset, .unset] [(.int (0 : Int32))])) (fun _ k => XS.iconst X5.here hx rfl (hb hby at_43) k) ?_
    refine Goes.step (B := T5.setTop (mkF m 46 #[.val (.int i0), .val (.long i1), .second, .val (.long i2), .second, .val (.int i3), .val (.int i4), .val (.ref b1), .val (.ref b4), .val (.int (0 : Int32)), .unset, .unset, .unset, .unset, .unset, .unset] [])) (fun _ k => XS.istore X5.here hx rfl (hb hby at_44) rfl (l' := #[.val (.int i0), .val (.long i1), .second, .val (.long i2), .second, .val (.int i3), .val (.int i4), .val (.ref b1), .val (.ref b4), .val (.int (0 : Int32)), .unset, .unset, .unset, .unset, .unset, .unset]) rfl k) ?_
    refine Goes.step (B := T5.setTop (mkF m 48 #[.val (.int i0), .val (.long i1), .second, .val (.long i2), .second, .val (.int i3), .val (.int i4), .val (.ref b1), .val (.ref b4), .val (.int (0 : Int32)), .unset, .unset, .unset, .unset, .unset, .unset] [(.ref b4)])) (fun _ k => XS.aload X5.here hx rfl (hb hby at_46) rfl rfl k) ?_
    obtain ⟨cq6, kq6, qa6, qb6, qc6⟩ := isOf hZ rfl Ex5
    obtain ⟨_, _, ⟨T6, L6, k6, n6⟩, -, X6, ⟨Lc6, hQ6, l6, y6, z6⟩, st6⟩ := X5.virtualBack hx (y := (⟨"com/example/gridclear/gridclear/cms/Ber$Header", "constructed", "()Z"⟩ : MethodName)) (z := (⟨"com/example/gridclear/gridclear/cms/Ber$Header", "constructed", "()Z"⟩ : MethodName)) hown (mvT hZ (hw _ (List.mem_of_getElem? (i := 23) rfl))) (mvT hZ (hw _ (List.mem_of_getElem? (i := 24) rfl))) (notFace_of_selects (args := #[]) (mvT hZ (hw _ (List.mem_of_getElem? (i := 26) rfl)))) (mvT hZ (hw _ (List.mem_of_getElem? (i := 26) rfl))) (mvT hZ (hw _ (List.mem_of_getElem? (i := 25) rfl))) (by decide) (backOf (W := 0) (rmc0 l Z a0 hw [] b4 i0 T5.heap n0 O_5 hbt Fc5_tag) hZ (hw _ (List.mem_of_getElem? (i := 27) rfl)) (hw _ (List.mem_of_getElem? (i := 3) rfl)) (by decide) (by decide)) qa6 qc6 (g := (mkF m 48 #[.val (.int i0), .val (.long i1), .second, .val (.long i2), .second, .val (.int i3), .val (.int i4), .val (.ref b1), .val (.ref b4), .val (.int (0 : Int32)), .unset, .unset, .unset, .unset, .unset, .unset] [(.ref b4)])) rfl (by rw [hml]; rfl) (Steps.refl _) (argsL := []) (rest := []) (lenOf pd_2 rfl) rfl (by show 2 * 0 + _ ≤ _; exact Nat.le_of_eq rfl) (hb hby at_48) (fun _ _ => ⟨rfl, rfl, (by decide : 2 + 0 ≤ _), (by decide : 6 + 0 ≤ _)⟩)
    dsimp only [Pt.U, Pt.locs, Pt.cells, Pt.slots] at X6 l6 y6 z6 st6 hQ6
    subst l6 y6 z6
    obtain ⟨rfl, Nq6, eh6⟩ := hQ6
    have N6 := Fr.app N5 Nq6
    refine Goes.via (B := T6.setTop (mkF m 51 #[.val (.int i0), .val (.long i1), .second, .val (.long i2), .second, .val (.int i3), .val (.int i4), .val (.ref b1), .val (.ref b4), .val (.int (0 : Int32)), .unset, .unset, .unset, .unset, .unset, .unset] [(.int (0 : Int32))])) st6 ?_
    refine Goes.step (B := T6.setTop (mkF m 53 #[.val (.int i0), .val (.long i1), .second, .val (.long i2), .second, .val (.int i3), .val (.int i4), .val (.ref b1), .val (.ref b4), .val (.int (0 : Int32)), .unset, .unset, .unset, .unset, .unset, .unset] [(.int (0 : Int32)), (.int (0 : Int32))])) (fun _ k => XS.iload X6.here hx rfl (hb hby at_51) rfl k) ?_
    refine Goes.step (B := T6.setTop (mkF m 58 #[.val (.int i0), .val (.long i1), .second, .val (.long i2), .second, .val (.int i3), .val (.int i4), .val (.ref b1), .val (.ref b4), .val (.int (0 : Int32)), .unset, .unset, .unset, .unset, .unset, .unset] [])) (fun _ k => XS.icmpYes X6.here hx rfl (pc0 := 53) (pc' := 58) rfl (hb hby at_53) rfl (teq (by decide)).1 (by decide) (by decide) k) ?_
    obtain ⟨T7, h7, X7, e7, E7, A7, D7, -, st7⟩ := newO X6 hx hZ hown (hw _ (List.mem_of_getElem? (i := 1) rfl)) (hw _ (List.mem_of_getElem? (i := 2) rfl)) (hw _ (List.mem_of_getElem? (i := 3) rfl)) eh6 (g := (mkF m 58 #[.val (.int i0), .val (.long i1), .second, .val (.long i2), .second, .val (.int i3), .val (.int i4), .val (.ref b1), .val (.ref b4), .val (.int (0 : Int32)), .unset, .unset, .unset, .unset, .unset, .unset] [])) rfl (hb hby at_58) (by decide) (by decide)
    obtain ⟨b7, g7⟩ : ∃ z, z = T5.heap.size := ⟨_, rfl⟩
    rw [← g7] at A7 D7 st7
    have f8 := ((V3.ext E4).keep Kp5 (ninS ne_b1_b4 nin0))
    have ne_b1_b7 : b1 ≠ b7 := Nat.ne_of_lt (Nat.lt_of_lt_of_le f8.lt (Nat.le_of_eq g7.symm))
    have ne_b4_b7 : b4 ≠ b7 := Nat.ne_of_lt (Nat.lt_of_lt_of_le Ex5.lt (Nat.le_of_eq g7.symm))
    have g_b7 : n0 ≤ b7 := Nat.le_trans (own_z O_5) (Nat.le_of_eq g7.symm)
    have O_7 := O_5.ext E7
    have F7_tag : Fld Z h7 b7 "com/example/gridclear/gridclear/cms/Ber$Header" "tag" "I" (.int (0 : Int32)) := D7 (Or.inr (hw _ (List.mem_of_getElem? (i := 16) rfl))) (ty := .int) (by decide)
    have F7_length : Fld Z h7 b7 "com/example/gridclear/gridclear/cms/Ber$Header" "length" "J" (.long (0 : Int64)) := D7 (Or.inr (hw _ (List.mem_of_getElem? (i := 18) rfl))) (ty := .long) (by decide)
    have F7_head : Fld Z h7 b7 "com/example/gridclear/gridclear/cms/Ber$Header" "head" "[B" .null := D7 (Or.inr (hw _ (List.mem_of_getElem? (i := 20) rfl))) (ty := (.array .byte)) (by decide)
    have F7_contentStart : Fld Z h7 b7 "com/example/gridclear/gridclear/cms/Ber$Header" "contentStart" "J" (.long (0 : Int64)) := D7 (Or.inr (hw _ (List.mem_of_getElem? (i := 22) rfl))) (ty := .long) (by decide)
    refine Goes.step (B := T7.setTop (mkF m 61 #[.val (.int i0), .val (.long i1), .second, .val (.long i2), .second, .val (.int i3), .val (.int i4), .val (.ref b1), .val (.ref b4), .val (.int (0 : Int32)), .unset, .unset, .unset, .unset, .unset, .unset] [(.ref b7)])) st7 ?_
    refine Goes.step (B := T7.setTop (mkF m 62 #[.val (.int i0), .val (.long i1), .second, .val (.long i2), .second, .val (.int i3), .val (.int i4), .val (.ref b1), .val (.ref b4), .val (.int (0 : Int32)), .unset, .unset, .unset, .unset, .unset, .unset] [(.ref b7), (.ref b7)])) (fun _ k => XS.dup X7.here hx rfl (hb hby at_61) rfl rfl k) ?_
    refine Goes.step (B := T7.setTop (mkF m 63 #[.val (.int i0), .val (.long i1), .second, .val (.long i2), .second, .val (.int i3), .val (.int i4), .val (.ref b1), .val (.ref b4), .val (.int (0 : Int32)), .unset, .unset, .unset, .unset, .unset, .unset] [(.int i0), (.ref b7), (.ref b7)])) (fun _ k => XS.iloadN X7.here hx rfl (hb hby at_62) rfl k) ?_
    refine Goes.step (B := T7.setTop (mkF m 65 #[.val (.int i0), .val (.long i1), .second, .val (.long i2), .second, .val (.int i3), .val (.int i4), .val (.ref b1), .val (.ref b4), .val (.int (0 : Int32)), .unset, .unset, .unset, .unset, .unset, .unset] [(.int (32 : Int32)), (.int i0), (.ref b7), (.ref b7)])) (fun _ k => XS.bipush X7.here hx rfl (hb hby at_63) k) ?_
    refine Goes.step (B := T7.setTop (mkF m 66 #[.val (.int i0), .val (.long i1), .second, .val (.long i2), .second, .val (.int i3), .val (.int i4), .val (.ref b1), .val (.ref b4), .val (.int (0 : Int32)), .unset, .unset, .unset, .unset, .unset, .unset] [(.int (i0 ^^^ (32 : Int32))), (.ref b7), (.ref b7)])) (fun _ k => XS.ixor X7.here hx rfl (hb hby at_65) rfl k) ?_
    refine Goes.step (B := T7.setTop (mkF m 67 #[.val (.int i0), .val (.long i1), .second, .val (.long i2), .second, .val (.int i3), .val (.int i4), .val (.ref b1), .val (.ref b4), .val (.int (0 : Int32)), .unset, .unset, .unset, .unset, .unset, .unset] [(.long i1), (.int (i0 ^^^ (32 : Int32))), (.ref b7), (.ref b7)])) (fun _ k => XS.lloadN X7.here hx rfl (hb hby at_66) rfl k) ?_
    refine Goes.step (B := T7.setTop (mkF m 69 #[.val (.int i0), .val (.long i1), .second, .val (.long i2), .second, .val (.int i3), .val (.int i4), .val (.ref b1), .val (.ref b4), .val (.int (0 : Int32)), .unset, .unset, .unset, .unset, .unset, .unset] [(.ref b1), (.long i1), (.int (i0 ^^^ (32 : Int32))), (.ref b7), (.ref b7)])) (fun _ k => XS.aload X7.here hx rfl (hb hby at_67) rfl rfl k) ?_
    refine Goes.step (B := T7.setTop (mkF m 70 #[.val (.int i0), .val (.long i1), .second, .val (.long i2), .second, .val (.int i3), .val (.int i4), .val (.ref b1), .val (.ref b4), .val (.int (0 : Int32)), .unset, .unset, .unset, .unset, .unset, .unset] [(.long i2), (.ref b1), (.long i1), (.int (i0 ^^^ (32 : Int32))), (.ref b7), (.ref b7)])) (fun _ k => XS.lloadN X7.here hx rfl (hb hby at_69) rfl k) ?_
    obtain ⟨_, _, ⟨T9, L9, k9, n9⟩, -, X9, ⟨Lc9, hQ9, l9, y9, z9⟩, st9⟩ := X7.specialBack hx (y := (⟨"com/example/gridclear/gridclear/cms/Ber$Header", "<init>", "(IJ[BJ)V"⟩ : MethodName)) rfl hown (mvT hZ (hw _ (List.mem_of_getElem? (i := 4) rfl))) (mvT hZ (hw _ (List.mem_of_getElem? (i := 5) rfl))) (mvT hZ (hw _ (List.mem_of_getElem? (i := 6) rfl))) (by decide) (backOf (W := 1) (rm1 l Z a0 hw [] b7 (i0 ^^^ (32 : Int32)) i1 b1 i2 h7 n0 O_7 A7 g_b7 F7_tag F7_length F7_head F7_contentStart) hZ (hw _ (List.mem_of_getElem? (i := 6) rfl)) (hw _ (List.mem_of_getElem? (i := 3) rfl)) (by decide) (by decide)) (g := (mkF m 70 #[.val (.int i0), .val (.long i1), .second, .val (.long i2), .second, .val (.int i3), .val (.int i4), .val (.ref b1), .val (.ref b4), .val (.int (0 : Int32)), .unset, .unset, .unset, .unset, .unset, .unset] [(.long i2), (.ref b1), (.long i1), (.int (i0 ^^^ (32 : Int32))), (.ref b7), (.ref b7)])) rfl (by rw [hml]; rfl) (Steps.refl _) (a := b7) (argsL := [(.int (i0 ^^^ (32 : Int32))), (.long i1), (.ref b1), (.long i2)]) (rest := [(.ref b7)]) (lenOf pd_1 rfl) rfl (by show 2 * 0 + _ ≤ _; exact Nat.le_of_eq rfl) (hb hby at_70) (fun _ _ => ⟨rfl, e7, (by decide : 3 + 0 ≤ _), (by decide : 10 + 0 ≤ _)⟩)
    dsimp only [Pt.U, Pt.locs, Pt.cells, Pt.slots] at X9 l9 y9 z9 st9 hQ9
    subst l9 y9 z9
    obtain ⟨rfl, Nq9, Kp9, Ex9, Fc9_tag, Fc9_length, Fc9_head, Fc9_contentStart⟩ := hQ9
    have O_9 := O_7.keep Kp9 (allS g_b7 all0)
    have N9 := Fr.app N6 Nq9
    refine Goes.via (B := T9.setTop (mkF m 73 #[.val (.int i0), .val (.long i1), .second, .val (.long i2), .second, .val (.int i3), .val (.int i4), .val (.ref b1), .val (.ref b4), .val (.int (0 : Int32)), .unset, .unset, .unset, .unset, .unset, .unset] [(.ref b7)])) st9 ?_
    refine Goes.step (B := T9.setTop (mkF m 75 #[.val (.int i0), .val (.long i1), .second, .val (.long i2), .second, .val (.int i3), .val (.int i4), .val (.ref b1), .val (.ref b4), .val (.int (0 : Int32)), .val (.ref b7), .unset, .unset, .unset, .unset, .unset] [])) (fun _ k => XS.astore X9.here hx rfl (hb hby at_73) rfl rfl (l' := #[.val (.int i0), .val (.long i1), .second, .val (.long i2), .second, .val (.int i3), .val (.int i4), .val (.ref b1), .val (.ref b4), .val (.int (0 : Int32)), .val (.ref b7), .unset, .unset, .unset, .unset, .unset]) rfl k) ?_
    refine Goes.step (B := T9.setTop (mkF m 77 #[.val (.int i0), .val (.long i1), .second, .val (.long i2), .second, .val (.int i3), .val (.int i4), .val (.ref b1), .val (.ref b4), .val (.int (0 : Int32)), .val (.ref b7), .unset, .unset, .unset, .unset, .unset] [(.ref b7)])) (fun _ k => XS.aload X9.here hx rfl (hb hby at_75) rfl rfl k) ?_
    obtain ⟨cq10, kq10, qa10, qb10, qc10⟩ := isOf hZ rfl Ex9
    obtain ⟨_, _, ⟨T10, L10, k10, n10⟩, -, X10, ⟨Lc10, hQ10, l10, y10, z10⟩, st10⟩ := X9.virtualBack hx (y := (⟨"com/example/gridclear/gridclear/cms/Ber$Header", "constructed", "()Z"⟩ : MethodName)) (z := (⟨"com/example/gridclear/gridclear/cms/Ber$Header", "constructed", "()Z"⟩ : MethodName)) hown (mvT hZ (hw _ (List.mem_of_getElem? (i := 23) rfl))) (mvT hZ (hw _ (List.mem_of_getElem? (i := 24) rfl))) (notFace_of_selects (args := #[]) (mvT hZ (hw _ (List.mem_of_getElem? (i := 26) rfl)))) (mvT hZ (hw _ (List.mem_of_getElem? (i := 26) rfl))) (mvT hZ (hw _ (List.mem_of_getElem? (i := 25) rfl))) (by decide) (backOf (W := 0) (rmc1 l Z a0 hw [] b7 (i0 ^^^ (32 : Int32)) T9.heap n0 O_9 hx1 Fc9_tag) hZ (hw _ (List.mem_of_getElem? (i := 27) rfl)) (hw _ (List.mem_of_getElem? (i := 3) rfl)) (by decide) (by decide)) qa10 qc10 (g := (mkF m 77 #[.val (.int i0), .val (.long i1), .second, .val (.long i2), .second, .val (.int i3), .val (.int i4), .val (.ref b1), .val (.ref b4), .val (.int (0 : Int32)), .val (.ref b7), .unset, .unset, .unset, .unset, .unset] [(.ref b7)])) rfl (by rw [hml]; rfl) (Steps.refl _) (argsL := []) (rest := []) (lenOf pd_2 rfl) rfl (by show 2 * 0 + _ ≤ _; exact Nat.le_of_eq rfl) (hb hby at_77) (fun _ _ => ⟨rfl, rfl, (by decide : 3 + 0 ≤ _), (by decide : 10 + 0 ≤ _)⟩)
    dsimp only [Pt.U, Pt.locs, Pt.cells, Pt.slots] at X10 l10 y10 z10 st10 hQ10
    subst l10 y10 z10
    obtain ⟨rfl, Nq10, eh10⟩ := hQ10
    have N10 := Fr.app N9 Nq10
    refine Goes.via (B := T10.setTop (mkF m 80 #[.val (.int i0), .val (.long i1), .second, .val (.long i2), .second, .val (.int i3), .val (.int i4), .val (.ref b1), .val (.ref b4), .val (.int (0 : Int32)), .val (.ref b7), .unset, .unset, .unset, .unset, .unset] [(.int (1 : Int32))])) st10 ?_
    refine Goes.step (B := T10.setTop (mkF m 82 #[.val (.int i0), .val (.long i1), .second, .val (.long i2), .second, .val (.int i3), .val (.int i4), .val (.ref b1), .val (.ref b4), .val (.int (0 : Int32)), .val (.ref b7), .unset, .unset, .unset, .unset, .unset] [(.ref b4), (.int (1 : Int32))])) (fun _ k => XS.aload X10.here hx rfl (hb hby at_80) rfl rfl k) ?_
    have f12 := ((Fc5_tag.ext E7).keep Kp9 (ninS ne_b4_b7 nin0))
    have f13 := ((Ex5.ext E7).keep Kp9)
    obtain ⟨cq11, kq11, qa11, qb11, qc11⟩ := isOf hZ eh10 f13
    obtain ⟨_, _, ⟨T11, L11, k11, n11⟩, -, X11, ⟨Lc11, hQ11, l11, y11, z11⟩, st11⟩ := X10.virtualBack hx (y := (⟨"com/example/gridclear/gridclear/cms/Ber$Header", "constructed", "()Z"⟩ : MethodName)) (z := (⟨"com/example/gridclear/gridclear/cms/Ber$Header", "constructed", "()Z"⟩ : MethodName)) hown (mvT hZ (hw _ (List.mem_of_getElem? (i := 23) rfl))) (mvT hZ (hw _ (List.mem_of_getElem? (i := 24) rfl))) (notFace_of_selects (args := #[]) (mvT hZ (hw _ (List.mem_of_getElem? (i := 26) rfl)))) (mvT hZ (hw _ (List.mem_of_getElem? (i := 26) rfl))) (mvT hZ (hw _ (List.mem_of_getElem? (i := 25) rfl))) (by decide) (backOf (W := 1) (rmc0 l Z a0 hw [] b4 i0 T9.heap n0 O_9 hbt f12) hZ (hw _ (List.mem_of_getElem? (i := 27) rfl)) (hw _ (List.mem_of_getElem? (i := 3) rfl)) (by decide) (by decide)) qa11 qc11 (g := (mkF m 82 #[.val (.int i0), .val (.long i1), .second, .val (.long i2), .second, .val (.int i3), .val (.int i4), .val (.ref b1), .val (.ref b4), .val (.int (0 : Int32)), .val (.ref b7), .unset, .unset, .unset, .unset, .unset] [(.ref b4), (.int (1 : Int32))])) rfl (by rw [hml]; rfl) (Steps.refl _) (argsL := []) (rest := [(.int (1 : Int32))]) (lenOf pd_2 rfl) rfl (by show 2 * 0 + _ ≤ _; exact Nat.le_of_eq rfl) (hb hby at_82) (fun _ _ => ⟨rfl, eh10, (by decide : 3 + 0 ≤ _), (by decide : 10 + 0 ≤ _)⟩)
    dsimp only [Pt.U, Pt.locs, Pt.cells, Pt.slots] at X11 l11 y11 z11 st11 hQ11
    subst l11 y11 z11
    obtain ⟨rfl, Nq11, eh11⟩ := hQ11
    have N11 := Fr.app N10 Nq11
    refine Goes.via (B := T11.setTop (mkF m 85 #[.val (.int i0), .val (.long i1), .second, .val (.long i2), .second, .val (.int i3), .val (.int i4), .val (.ref b1), .val (.ref b4), .val (.int (0 : Int32)), .val (.ref b7), .unset, .unset, .unset, .unset, .unset] [(.int (0 : Int32)), (.int (1 : Int32))])) st11 ?_
    refine Goes.step (B := T11.setTop (mkF m 90 #[.val (.int i0), .val (.long i1), .second, .val (.long i2), .second, .val (.int i3), .val (.int i4), .val (.ref b1), .val (.ref b4), .val (.int (0 : Int32)), .val (.ref b7), .unset, .unset, .unset, .unset, .unset] [])) (fun _ k => XS.icmpYes X11.here hx rfl (pc0 := 85) (pc' := 90) rfl (hb hby at_85) rfl (feq (by decide)).2 (by decide) (by decide) k) ?_
    refine Goes.step (B := T11.setTop (mkF m 92 #[.val (.int i0), .val (.long i1), .second, .val (.long i2), .second, .val (.int i3), .val (.int i4), .val (.ref b1), .val (.ref b4), .val (.int (0 : Int32)), .val (.ref b7), .unset, .unset, .unset, .unset, .unset] [(.int i4)])) (fun _ k => XS.iload X11.here hx rfl (hb hby at_90) rfl k) ?_
    refine Goes.step (B := T11.setTop (mkF m 94 #[.val (.int i0), .val (.long i1), .second, .val (.long i2), .second, .val (.int i3), .val (.int i4), .val (.ref b1), .val (.ref b4), .val (.int (0 : Int32)), .val (.ref b7), .unset, .unset, .unset, .unset, .unset] [(.int (31 : Int32)), (.int i4)])) (fun _ k => XS.bipush X11.here hx rfl (hb hby at_92) k) ?_
    refine Goes.step (B := T11.setTop (mkF m 95 #[.val (.int i0), .val (.long i1), .second, .val (.long i2), .second, .val (.int i3), .val (.int i4), .val (.ref b1), .val (.ref b4), .val (.int (0 : Int32)), .val (.ref b7), .unset, .unset, .unset, .unset, .unset] [(.int (i4 &&& (31 : Int32)))])) (fun _ k => XS.iand X11.here hx rfl (hb hby at_94) rfl k) ?_
    refine Goes.step (B := T11.setTop (mkF m 97 #[.val (.int i0), .val (.long i1), .second, .val (.long i2), .second, .val (.int i3), .val (.int i4), .val (.ref b1), .val (.ref b4), .val (.int (0 : Int32)), .val (.ref b7), .val (.int (i4 &&& (31 : Int32))), .unset, .unset, .unset, .unset] [])) (fun _ k => XS.istore X11.here hx rfl (hb hby at_95) rfl (l' := #[.val (.int i0), .val (.long i1), .second, .val (.long i2), .second, .val (.int i3), .val (.int i4), .val (.ref b1), .val (.ref b4), .val (.int (0 : Int32)), .val (.ref b7), .val (.int (i4 &&& (31 : Int32))), .unset, .unset, .unset, .unset]) rfl k) ?_
    obtain ⟨T14, h14, X14, e14, E14, A14, D14, -, st14⟩ := newO X11 hx hZ hown (hw _ (List.mem_of_getElem? (i := 1) rfl)) (hw _ (List.mem_of_getElem? (i := 2) rfl)) (hw _ (List.mem_of_getElem? (i := 3) rfl)) eh11 (g := (mkF m 97 #[.val (.int i0), .val (.long i1), .second, .val (.long i2), .second, .val (.int i3), .val (.int i4), .val (.ref b1), .val (.ref b4), .val (.int (0 : Int32)), .val (.ref b7), .val (.int (i4 &&& (31 : Int32))), .unset, .unset, .unset, .unset] [])) rfl (hb hby at_97) (by decide) (by decide)
    obtain ⟨b14, g14⟩ : ∃ z, z = T9.heap.size := ⟨_, rfl⟩
    rw [← g14] at A14 D14 st14
    have f15 := ((f8.ext E7).keep Kp9 (ninS ne_b1_b7 nin0))
    have ne_b1_b14 : b1 ≠ b14 := Nat.ne_of_lt (Nat.lt_of_lt_of_le f15.lt (Nat.le_of_eq g14.symm))
    have ne_b4_b14 : b4 ≠ b14 := Nat.ne_of_lt (Nat.lt_of_lt_of_le f13.lt (Nat.le_of_eq g14.symm))
    have ne_b7_b14 : b7 ≠ b14 := Nat.ne_of_lt (Nat.lt_of_lt_of_le Ex9.lt (Nat.le_of_eq g14.symm))
    have g_b14 : n0 ≤ b14 := Nat.le_trans (own_z O_9) (Nat.le_of_eq g14.symm)
    have O_14 := O_9.ext E14
    have F14_tag : Fld Z h14 b14 "com/example/gridclear/gridclear/cms/Ber$Header" "tag" "I" (.int (0 : Int32)) := D14 (Or.inr (hw _ (List.mem_of_getElem? (i := 16) rfl))) (ty := .int) (by decide)
    have F14_length : Fld Z h14 b14 "com/example/gridclear/gridclear/cms/Ber$Header" "length" "J" (.long (0 : Int64)) := D14 (Or.inr (hw _ (List.mem_of_getElem? (i := 18) rfl))) (ty := .long) (by decide)
    have F14_head : Fld Z h14 b14 "com/example/gridclear/gridclear/cms/Ber$Header" "head" "[B" .null := D14 (Or.inr (hw _ (List.mem_of_getElem? (i := 20) rfl))) (ty := (.array .byte)) (by decide)
    have F14_contentStart : Fld Z h14 b14 "com/example/gridclear/gridclear/cms/Ber$Header" "contentStart" "J" (.long (0 : Int64)) := D14 (Or.inr (hw _ (List.mem_of_getElem? (i := 22) rfl))) (ty := .long) (by decide)
    refine Goes.step (B := T14.setTop (mkF m 100 #[.val (.int i0), .val (.long i1), .second, .val (.long i2), .second, .val (.int i3), .val (.int i4), .val (.ref b1), .val (.ref b4), .val (.int (0 : Int32)), .val (.ref b7), .val (.int (i4 &&& (31 : Int32))), .unset, .unset, .unset, .unset] [(.ref b14)])) st14 ?_
    refine Goes.step (B := T14.setTop (mkF m 101 #[.val (.int i0), .val (.long i1), .second, .val (.long i2), .second, .val (.int i3), .val (.int i4), .val (.ref b1), .val (.ref b4), .val (.int (0 : Int32)), .val (.ref b7), .val (.int (i4 &&& (31 : Int32))), .unset, .unset, .unset, .unset] [(.ref b14), (.ref b14)])) (fun _ k => XS.dup X14.here hx rfl (hb hby at_100) rfl rfl k) ?_
    refine Goes.step (B := T14.setTop (mkF m 103 #[.val (.int i0), .val (.long i1), .second, .val (.long i2), .second, .val (.int i3), .val (.int i4), .val (.ref b1), .val (.ref b4), .val (.int (0 : Int32)), .val (.ref b7), .val (.int (i4 &&& (31 : Int32))), .unset, .unset, .unset, .unset] [(.int (i4 &&& (31 : Int32))), (.ref b14), (.ref b14)])) (fun _ k => XS.iload X14.here hx rfl (hb hby at_101) rfl k) ?_
    obtain ⟨_, _, ⟨T16, L16, k16, n16⟩, -, X16, ⟨Lc16, hQ16, l16, y16, z16⟩, st16⟩ := Jvm.LawKit.callS X14 hx (y := (⟨"com/example/gridclear/gridclear/cms/Der", "context", "(I)I"⟩ : MethodName)) hown (mvT hZ (hw _ (List.mem_of_getElem? (i := 28) rfl))) (mvT hZ (hw _ (List.mem_of_getElem? (i := 29) rfl))) (mvT hZ (hw _ (List.mem_of_getElem? (i := 30) rfl))) (mvT hZ (hw _ (List.mem_of_getElem? (i := 31) rfl))) (by decide) (backOf (W := 2) (rm5 l Z a0 hw [] (i4 &&& (31 : Int32)) h14 n0 O_14 ) hZ (hw _ (List.mem_of_getElem? (i := 31) rfl)) (hw _ (List.mem_of_getElem? (i := 30) rfl)) (by decide) (by decide)) (g := (mkF m 103 #[.val (.int i0), .val (.long i1), .second, .val (.long i2), .second, .val (.int i3), .val (.int i4), .val (.ref b1), .val (.ref b4), .val (.int (0 : Int32)), .val (.ref b7), .val (.int (i4 &&& (31 : Int32))), .unset, .unset, .unset, .unset] [(.int (i4 &&& (31 : Int32))), (.ref b14), (.ref b14)])) rfl (by rw [hml]; rfl) (argsL := [(.int (i4 &&& (31 : Int32)))]) (rest := [(.ref b14), (.ref b14)]) (lenOf pd_3 rfl) rfl (by show 2 * 0 + _ ≤ _; exact Nat.le_of_eq rfl) (hb hby at_103) (fun _ _ => ⟨rfl, e14, (by decide : 4 + 0 ≤ _), (by decide : 14 + 0 ≤ _)⟩)
    dsimp only [Pt.U, Pt.locs, Pt.cells, Pt.slots] at X16 l16 y16 z16 st16 hQ16
    subst l16 y16 z16
    obtain ⟨rfl, Nq16, eh16⟩ := hQ16
    have N16 := Fr.app N11 Nq16
    refine Goes.step (B := T16.setTop (mkF m 106 #[.val (.int i0), .val (.long i1), .second, .val (.long i2), .second, .val (.int i3), .val (.int i4), .val (.ref b1), .val (.ref b4), .val (.int (0 : Int32)), .val (.ref b7), .val (.int (i4 &&& (31 : Int32))), .unset, .unset, .unset, .unset] [(.int ((160 : Int32) ||| (i4 &&& (31 : Int32)))), (.ref b14), (.ref b14)])) st16 ?_
    refine Goes.step (B := T16.setTop (mkF m 107 #[.val (.int i0), .val (.long i1), .second, .val (.long i2), .second, .val (.int i3), .val (.int i4), .val (.ref b1), .val (.ref b4), .val (.int (0 : Int32)), .val (.ref b7), .val (.int (i4 &&& (31 : Int32))), .unset, .unset, .unset, .unset] [(.long i1), (.int ((160 : Int32) ||| (i4 &&& (31 : Int32)))), (.ref b14), (.ref b14)])) (fun _ k => XS.lloadN X16.here hx rfl (hb hby at_106) rfl k) ?_
    refine Goes.step (B := T16.setTop (mkF m 109 #[.val (.int i0), .val (.long i1), .second, .val (.long i2), .second, .val (.int i3), .val (.int i4), .val (.ref b1), .val (.ref b4), .val (.int (0 : Int32)), .val (.ref b7), .val (.int (i4 &&& (31 : Int32))), .unset, .unset, .unset, .unset] [(.ref b1), (.long i1), (.int ((160 : Int32) ||| (i4 &&& (31 : Int32)))), (.ref b14), (.ref b14)])) (fun _ k => XS.aload X16.here hx rfl (hb hby at_107) rfl rfl k) ?_
    refine Goes.step (B := T16.setTop (mkF m 110 #[.val (.int i0), .val (.long i1), .second, .val (.long i2), .second, .val (.int i3), .val (.int i4), .val (.ref b1), .val (.ref b4), .val (.int (0 : Int32)), .val (.ref b7), .val (.int (i4 &&& (31 : Int32))), .unset, .unset, .unset, .unset] [(.long i2), (.ref b1), (.long i1), (.int ((160 : Int32) ||| (i4 &&& (31 : Int32)))), (.ref b14), (.ref b14)])) (fun _ k => XS.lloadN X16.here hx rfl (hb hby at_109) rfl k) ?_
    obtain ⟨_, _, ⟨T17, L17, k17, n17⟩, -, X17, ⟨Lc17, hQ17, l17, y17, z17⟩, st17⟩ := X16.specialBack hx (y := (⟨"com/example/gridclear/gridclear/cms/Ber$Header", "<init>", "(IJ[BJ)V"⟩ : MethodName)) rfl hown (mvT hZ (hw _ (List.mem_of_getElem? (i := 4) rfl))) (mvT hZ (hw _ (List.mem_of_getElem? (i := 5) rfl))) (mvT hZ (hw _ (List.mem_of_getElem? (i := 6) rfl))) (by decide) (backOf (W := 1) (rm1 l Z a0 hw [] b14 ((160 : Int32) ||| (i4 &&& (31 : Int32))) i1 b1 i2 h14 n0 O_14 A14 g_b14 F14_tag F14_length F14_head F14_contentStart) hZ (hw _ (List.mem_of_getElem? (i := 6) rfl)) (hw _ (List.mem_of_getElem? (i := 3) rfl)) (by decide) (by decide)) (g := (mkF m 110 #[.val (.int i0), .val (.long i1), .second, .val (.long i2), .second, .val (.int i3), .val (.int i4), .val (.ref b1), .val (.ref b4), .val (.int (0 : Int32)), .val (.ref b7), .val (.int (i4 &&& (31 : Int32))), .unset, .unset, .unset, .unset] [(.long i2), (.ref b1), (.long i1), (.int ((160 : Int32) ||| (i4 &&& (31 : Int32)))), (.ref b14), (.ref b14)])) rfl (by rw [hml]; rfl) (Steps.refl _) (a := b14) (argsL := [(.int ((160 : Int32) ||| (i4 &&& (31 : Int32)))), (.long i1), (.ref b1), (.long i2)]) (rest := [(.ref b14)]) (lenOf pd_1 rfl) rfl (by show 2 * 0 + _ ≤ _; exact Nat.le_of_eq rfl) (hb hby at_110) (fun _ _ => ⟨rfl, eh16, (by decide : 4 + 0 ≤ _), (by decide : 14 + 0 ≤ _)⟩)
    dsimp only [Pt.U, Pt.locs, Pt.cells, Pt.slots] at X17 l17 y17 z17 st17 hQ17
    subst l17 y17 z17
    obtain ⟨rfl, Nq17, Kp17, Ex17, Fc17_tag, Fc17_length, Fc17_head, Fc17_contentStart⟩ := hQ17
    have O_17 := O_14.keep Kp17 (allS g_b14 all0)
    have N17 := Fr.app N16 Nq17
    refine Goes.via (B := T17.setTop (mkF m 113 #[.val (.int i0), .val (.long i1), .second, .val (.long i2), .second, .val (.int i3), .val (.int i4), .val (.ref b1), .val (.ref b4), .val (.int (0 : Int32)), .val (.ref b7), .val (.int (i4 &&& (31 : Int32))), .unset, .unset, .unset, .unset] [(.ref b14)])) st17 ?_
    refine Goes.step (B := T17.setTop (mkF m 115 #[.val (.int i0), .val (.long i1), .second, .val (.long i2), .second, .val (.int i3), .val (.int i4), .val (.ref b1), .val (.ref b4), .val (.int (0 : Int32)), .val (.ref b7), .val (.int (i4 &&& (31 : Int32))), .val (.ref b14), .unset, .unset, .unset] [])) (fun _ k => XS.astore X17.here hx rfl (hb hby at_113) rfl rfl (l' := #[.val (.int i0), .val (.long i1), .second, .val (.long i2), .second, .val (.int i3), .val (.int i4), .val (.ref b1), .val (.ref b4), .val (.int (0 : Int32)), .val (.ref b7), .val (.int (i4 &&& (31 : Int32))), .val (.ref b14), .unset, .unset, .unset]) rfl k) ?_
    obtain ⟨T18, h18, X18, e18, E18, A18, D18, -, st18⟩ := newO X17 hx hZ hown (hw _ (List.mem_of_getElem? (i := 1) rfl)) (hw _ (List.mem_of_getElem? (i := 2) rfl)) (hw _ (List.mem_of_getElem? (i := 3) rfl)) rfl (g := (mkF m 115 #[.val (.int i0), .val (.long i1), .second, .val (.long i2), .second, .val (.int i3), .val (.int i4), .val (.ref b1), .val (.ref b4), .val (.int (0 : Int32)), .val (.ref b7), .val (.int (i4 &&& (31 : Int32))), .val (.ref b14), .unset, .unset, .unset] [])) rfl (hb hby at_115) (by decide) (by decide)
    obtain ⟨b18, g18⟩ : ∃ z, z = T17.heap.size := ⟨_, rfl⟩
    rw [← g18] at A18 D18 st18
    have f19 := ((f15.ext E14).keep Kp17 (ninS ne_b1_b14 nin0))
    have ne_b1_b18 : b1 ≠ b18 := Nat.ne_of_lt (Nat.lt_of_lt_of_le f19.lt (Nat.le_of_eq g18.symm))
    have f20 := ((f13.ext E14).keep Kp17)
    have ne_b4_b18 : b4 ≠ b18 := Nat.ne_of_lt (Nat.lt_of_lt_of_le f20.lt (Nat.le_of_eq g18.symm))
    have f21 := ((Ex9.ext E14).keep Kp17)
    have ne_b7_b18 : b7 ≠ b18 := Nat.ne_of_lt (Nat.lt_of_lt_of_le f21.lt (Nat.le_of_eq g18.symm))
    have ne_b14_b18 : b14 ≠ b18 := Nat.ne_of_lt (Nat.lt_of_lt_of_le Ex17.lt (Nat.le_of_eq g18.symm))
    have g_b18 : n0 ≤ b18 := Nat.le_trans (own_z O_17) (Nat.le_of_eq g18.symm)
    have O_18 := O_17.ext E18
    have F18_tag : Fld Z h18 b18 "com/example/gridclear/gridclear/cms/Ber$Header" "tag" "I" (.int (0 : Int32)) := D18 (Or.inr (hw _ (List.mem_of_getElem? (i := 16) rfl))) (ty := .int) (by decide)
    have F18_length : Fld Z h18 b18 "com/example/gridclear/gridclear/cms/Ber$Header" "length" "J" (.long (0 : Int64)) := D18 (Or.inr (hw _ (List.mem_of_getElem? (i := 18) rfl))) (ty := .long) (by decide)
    have F18_head : Fld Z h18 b18 "com/example/gridclear/gridclear/cms/Ber$Header" "head" "[B" .null := D18 (Or.inr (hw _ (List.mem_of_getElem? (i := 20) rfl))) (ty := (.array .byte)) (by decide)
    have F18_contentStart : Fld Z h18 b18 "com/example/gridclear/gridclear/cms/Ber$Header" "contentStart" "J" (.long (0 : Int64)) := D18 (Or.inr (hw _ (List.mem_of_getElem? (i := 22) rfl))) (ty := .long) (by decide)
    refine Goes.step (B := T18.setTop (mkF m 118 #[.val (.int i0), .val (.long i1), .second, .val (.long i2), .second, .val (.int i3), .val (.int i4), .val (.ref b1), .val (.ref b4), .val (.int (0 : Int32)), .val (.ref b7), .val (.int (i4 &&& (31 : Int32))), .val (.ref b14), .unset, .unset, .unset] [(.ref b18)])) st18 ?_
    refine Goes.step (B := T18.setTop (mkF m 119 #[.val (.int i0), .val (.long i1), .second, .val (.long i2), .second, .val (.int i3), .val (.int i4), .val (.ref b1), .val (.ref b4), .val (.int (0 : Int32)), .val (.ref b7), .val (.int (i4 &&& (31 : Int32))), .val (.ref b14), .unset, .unset, .unset] [(.ref b18), (.ref b18)])) (fun _ k => XS.dup X18.here hx rfl (hb hby at_118) rfl rfl k) ?_
    refine Goes.step (B := T18.setTop (mkF m 121 #[.val (.int i0), .val (.long i1), .second, .val (.long i2), .second, .val (.int i3), .val (.int i4), .val (.ref b1), .val (.ref b4), .val (.int (0 : Int32)), .val (.ref b7), .val (.int (i4 &&& (31 : Int32))), .val (.ref b14), .unset, .unset, .unset] [(.int (i4 &&& (31 : Int32))), (.ref b18), (.ref b18)])) (fun _ k => XS.iload X18.here hx rfl (hb hby at_119) rfl k) ?_
    obtain ⟨_, _, ⟨T22, L22, k22, n22⟩, -, X22, ⟨Lc22, hQ22, l22, y22, z22⟩, st22⟩ := Jvm.LawKit.callS X18 hx (y := (⟨"com/example/gridclear/gridclear/cms/Der", "contextPrimitive", "(I)I"⟩ : MethodName)) hown (mvT hZ (hw _ (List.mem_of_getElem? (i := 32) rfl))) (mvT hZ (hw _ (List.mem_of_getElem? (i := 33) rfl))) (mvT hZ (hw _ (List.mem_of_getElem? (i := 30) rfl))) (mvT hZ (hw _ (List.mem_of_getElem? (i := 34) rfl))) (by decide) (backOf (W := 2) (rm6 l Z a0 hw [] (i4 &&& (31 : Int32)) h18 n0 O_18 ) hZ (hw _ (List.mem_of_getElem? (i := 34) rfl)) (hw _ (List.mem_of_getElem? (i := 30) rfl)) (by decide) (by decide)) (g := (mkF m 121 #[.val (.int i0), .val (.long i1), .second, .val (.long i2), .second, .val (.int i3), .val (.int i4), .val (.ref b1), .val (.ref b4), .val (.int (0 : Int32)), .val (.ref b7), .val (.int (i4 &&& (31 : Int32))), .val (.ref b14), .unset, .unset, .unset] [(.int (i4 &&& (31 : Int32))), (.ref b18), (.ref b18)])) rfl (by rw [hml]; rfl) (argsL := [(.int (i4 &&& (31 : Int32)))]) (rest := [(.ref b18), (.ref b18)]) (lenOf pd_3 rfl) rfl (by show 2 * 0 + _ ≤ _; exact Nat.le_of_eq rfl) (hb hby at_121) (fun _ _ => ⟨rfl, e18, (by decide : 5 + 0 ≤ _), (by decide : 18 + 0 ≤ _)⟩)
    dsimp only [Pt.U, Pt.locs, Pt.cells, Pt.slots] at X22 l22 y22 z22 st22 hQ22
    subst l22 y22 z22
    obtain ⟨rfl, Nq22, eh22⟩ := hQ22
    have N22 := Fr.app N17 Nq22
    refine Goes.step (B := T22.setTop (mkF m 124 #[.val (.int i0), .val (.long i1), .second, .val (.long i2), .second, .val (.int i3), .val (.int i4), .val (.ref b1), .val (.ref b4), .val (.int (0 : Int32)), .val (.ref b7), .val (.int (i4 &&& (31 : Int32))), .val (.ref b14), .unset, .unset, .unset] [(.int ((128 : Int32) ||| (i4 &&& (31 : Int32)))), (.ref b18), (.ref b18)])) st22 ?_
    refine Goes.step (B := T22.setTop (mkF m 125 #[.val (.int i0), .val (.long i1), .second, .val (.long i2), .second, .val (.int i3), .val (.int i4), .val (.ref b1), .val (.ref b4), .val (.int (0 : Int32)), .val (.ref b7), .val (.int (i4 &&& (31 : Int32))), .val (.ref b14), .unset, .unset, .unset] [(.long i1), (.int ((128 : Int32) ||| (i4 &&& (31 : Int32)))), (.ref b18), (.ref b18)])) (fun _ k => XS.lloadN X22.here hx rfl (hb hby at_124) rfl k) ?_
    refine Goes.step (B := T22.setTop (mkF m 127 #[.val (.int i0), .val (.long i1), .second, .val (.long i2), .second, .val (.int i3), .val (.int i4), .val (.ref b1), .val (.ref b4), .val (.int (0 : Int32)), .val (.ref b7), .val (.int (i4 &&& (31 : Int32))), .val (.ref b14), .unset, .unset, .unset] [(.ref b1), (.long i1), (.int ((128 : Int32) ||| (i4 &&& (31 : Int32)))), (.ref b18), (.ref b18)])) (fun _ k => XS.aload X22.here hx rfl (hb hby at_125) rfl rfl k) ?_
    refine Goes.step (B := T22.setTop (mkF m 128 #[.val (.int i0), .val (.long i1), .second, .val (.long i2), .second, .val (.int i3), .val (.int i4), .val (.ref b1), .val (.ref b4), .val (.int (0 : Int32)), .val (.ref b7), .val (.int (i4 &&& (31 : Int32))), .val (.ref b14), .unset, .unset, .unset] [(.long i2), (.ref b1), (.long i1), (.int ((128 : Int32) ||| (i4 &&& (31 : Int32)))), (.ref b18), (.ref b18)])) (fun _ k => XS.lloadN X22.here hx rfl (hb hby at_127) rfl k) ?_
    obtain ⟨_, _, ⟨T23, L23, k23, n23⟩, -, X23, ⟨Lc23, hQ23, l23, y23, z23⟩, st23⟩ := X22.specialBack hx (y := (⟨"com/example/gridclear/gridclear/cms/Ber$Header", "<init>", "(IJ[BJ)V"⟩ : MethodName)) rfl hown (mvT hZ (hw _ (List.mem_of_getElem? (i := 4) rfl))) (mvT hZ (hw _ (List.mem_of_getElem? (i := 5) rfl))) (mvT hZ (hw _ (List.mem_of_getElem? (i := 6) rfl))) (by decide) (backOf (W := 1) (rm1 l Z a0 hw [] b18 ((128 : Int32) ||| (i4 &&& (31 : Int32))) i1 b1 i2 h18 n0 O_18 A18 g_b18 F18_tag F18_length F18_head F18_contentStart) hZ (hw _ (List.mem_of_getElem? (i := 6) rfl)) (hw _ (List.mem_of_getElem? (i := 3) rfl)) (by decide) (by decide)) (g := (mkF m 128 #[.val (.int i0), .val (.long i1), .second, .val (.long i2), .second, .val (.int i3), .val (.int i4), .val (.ref b1), .val (.ref b4), .val (.int (0 : Int32)), .val (.ref b7), .val (.int (i4 &&& (31 : Int32))), .val (.ref b14), .unset, .unset, .unset] [(.long i2), (.ref b1), (.long i1), (.int ((128 : Int32) ||| (i4 &&& (31 : Int32)))), (.ref b18), (.ref b18)])) rfl (by rw [hml]; rfl) (Steps.refl _) (a := b18) (argsL := [(.int ((128 : Int32) ||| (i4 &&& (31 : Int32)))), (.long i1), (.ref b1), (.long i2)]) (rest := [(.ref b18)]) (lenOf pd_1 rfl) rfl (by show 2 * 0 + _ ≤ _; exact Nat.le_of_eq rfl) (hb hby at_128) (fun _ _ => ⟨rfl, eh22, (by decide : 5 + 0 ≤ _), (by decide : 18 + 0 ≤ _)⟩)
    dsimp only [Pt.U, Pt.locs, Pt.cells, Pt.slots] at X23 l23 y23 z23 st23 hQ23
    subst l23 y23 z23
    obtain ⟨rfl, Nq23, Kp23, Ex23, Fc23_tag, Fc23_length, Fc23_head, Fc23_contentStart⟩ := hQ23
    have O_23 := O_18.keep Kp23 (allS g_b18 all0)
    have N23 := Fr.app N22 Nq23
    refine Goes.via (B := T23.setTop (mkF m 131 #[.val (.int i0), .val (.long i1), .second, .val (.long i2), .second, .val (.int i3), .val (.int i4), .val (.ref b1), .val (.ref b4), .val (.int (0 : Int32)), .val (.ref b7), .val (.int (i4 &&& (31 : Int32))), .val (.ref b14), .unset, .unset, .unset] [(.ref b18)])) st23 ?_
    refine Goes.step (B := T23.setTop (mkF m 133 #[.val (.int i0), .val (.long i1), .second, .val (.long i2), .second, .val (.int i3), .val (.int i4), .val (.ref b1), .val (.ref b4), .val (.int (0 : Int32)), .val (.ref b7), .val (.int (i4 &&& (31 : Int32))), .val (.ref b14), .val (.ref b18), .unset, .unset] [])) (fun _ k => XS.astore X23.here hx rfl (hb hby at_131) rfl rfl (l' := #[.val (.int i0), .val (.long i1), .second, .val (.long i2), .second, .val (.int i3), .val (.int i4), .val (.ref b1), .val (.ref b4), .val (.int (0 : Int32)), .val (.ref b7), .val (.int (i4 &&& (31 : Int32))), .val (.ref b14), .val (.ref b18), .unset, .unset]) rfl k) ?_
    obtain ⟨T24, h24, X24, e24, E24, A24, D24, -, st24⟩ := newO X23 hx hZ hown (hw _ (List.mem_of_getElem? (i := 1) rfl)) (hw _ (List.mem_of_getElem? (i := 2) rfl)) (hw _ (List.mem_of_getElem? (i := 3) rfl)) rfl (g := (mkF m 133 #[.val (.int i0), .val (.long i1), .second, .val (.long i2), .second, .val (.int i3), .val (.int i4), .val (.ref b1), .val (.ref b4), .val (.int (0 : Int32)), .val (.ref b7), .val (.int (i4 &&& (31 : Int32))), .val (.ref b14), .val (.ref b18), .unset, .unset] [])) rfl (hb hby at_133) (by decide) (by decide)
    obtain ⟨b24, g24⟩ : ∃ z, z = T23.heap.size := ⟨_, rfl⟩
    rw [← g24] at A24 D24 st24
    have f25 := ((f19.ext E18).keep Kp23 (ninS ne_b1_b18 nin0))
    have ne_b1_b24 : b1 ≠ b24 := Nat.ne_of_lt (Nat.lt_of_lt_of_le f25.lt (Nat.le_of_eq g24.symm))
    have f26 := ((f20.ext E18).keep Kp23)
    have ne_b4_b24 : b4 ≠ b24 := Nat.ne_of_lt (Nat.lt_of_lt_of_le f26.lt (Nat.le_of_eq g24.symm))
    have f27 := ((f21.ext E18).keep Kp23)
    have ne_b7_b24 : b7 ≠ b24 := Nat.ne_of_lt (Nat.lt_of_lt_of_le f27.lt (Nat.le_of_eq g24.symm))
    have f28 := ((Ex17.ext E18).keep Kp23)
    have ne_b14_b24 : b14 ≠ b24 := Nat.ne_of_lt (Nat.lt_of_lt_of_le f28.lt (Nat.le_of_eq g24.symm))
    have ne_b18_b24 : b18 ≠ b24 := Nat.ne_of_lt (Nat.lt_of_lt_of_le Ex23.lt (Nat.le_of_eq g24.symm))
    have g_b24 : n0 ≤ b24 := Nat.le_trans (own_z O_23) (Nat.le_of_eq g24.symm)
    have O_24 := O_23.ext E24
    have F24_tag : Fld Z h24 b24 "com/example/gridclear/gridclear/cms/Ber$Header" "tag" "I" (.int (0 : Int32)) := D24 (Or.inr (hw _ (List.mem_of_getElem? (i := 16) rfl))) (ty := .int) (by decide)
    have F24_length : Fld Z h24 b24 "com/example/gridclear/gridclear/cms/Ber$Header" "length" "J" (.long (0 : Int64)) := D24 (Or.inr (hw _ (List.mem_of_getElem? (i := 18) rfl))) (ty := .long) (by decide)
    have F24_head : Fld Z h24 b24 "com/example/gridclear/gridclear/cms/Ber$Header" "head" "[B" .null := D24 (Or.inr (hw _ (List.mem_of_getElem? (i := 20) rfl))) (ty := (.array .byte)) (by decide)
    have F24_contentStart : Fld Z h24 b24 "com/example/gridclear/gridclear/cms/Ber$Header" "contentStart" "J" (.long (0 : Int64)) := D24 (Or.inr (hw _ (List.mem_of_getElem? (i := 22) rfl))) (ty := .long) (by decide)
    refine Goes.step (B := T24.setTop (mkF m 136 #[.val (.int i0), .val (.long i1), .second, .val (.long i2), .second, .val (.int i3), .val (.int i4), .val (.ref b1), .val (.ref b4), .val (.int (0 : Int32)), .val (.ref b7), .val (.int (i4 &&& (31 : Int32))), .val (.ref b14), .val (.ref b18), .unset, .unset] [(.ref b24)])) st24 ?_
    refine Goes.step (B := T24.setTop (mkF m 137 #[.val (.int i0), .val (.long i1), .second, .val (.long i2), .second, .val (.int i3), .val (.int i4), .val (.ref b1), .val (.ref b4), .val (.int (0 : Int32)), .val (.ref b7), .val (.int (i4 &&& (31 : Int32))), .val (.ref b14), .val (.ref b18), .unset, .unset] [(.ref b24), (.ref b24)])) (fun _ k => XS.dup X24.here hx rfl (hb hby at_136) rfl rfl k) ?_
    refine Goes.step (B := T24.setTop (mkF m 139 #[.val (.int i0), .val (.long i1), .second, .val (.long i2), .second, .val (.int i3), .val (.int i4), .val (.ref b1), .val (.ref b4), .val (.int (0 : Int32)), .val (.ref b7), .val (.int (i4 &&& (31 : Int32))), .val (.ref b14), .val (.ref b18), .unset, .unset] [(.int (48 : Int32)), (.ref b24), (.ref b24)])) (fun _ k => XS.bipush X24.here hx rfl (hb hby at_137) k) ?_
    refine Goes.step (B := T24.setTop (mkF m 140 #[.val (.int i0), .val (.long i1), .second, .val (.long i2), .second, .val (.int i3), .val (.int i4), .val (.ref b1), .val (.ref b4), .val (.int (0 : Int32)), .val (.ref b7), .val (.int (i4 &&& (31 : Int32))), .val (.ref b14), .val (.ref b18), .unset, .unset] [(.long i1), (.int (48 : Int32)), (.ref b24), (.ref b24)])) (fun _ k => XS.lloadN X24.here hx rfl (hb hby at_139) rfl k) ?_
    refine Goes.step (B := T24.setTop (mkF m 142 #[.val (.int i0), .val (.long i1), .second, .val (.long i2), .second, .val (.int i3), .val (.int i4), .val (.ref b1), .val (.ref b4), .val (.int (0 : Int32)), .val (.ref b7), .val (.int (i4 &&& (31 : Int32))), .val (.ref b14), .val (.ref b18), .unset, .unset] [(.ref b1), (.long i1), (.int (48 : Int32)), (.ref b24), (.ref b24)])) (fun _ k => XS.aload X24.here hx rfl (hb hby at_140) rfl rfl k) ?_
    refine Goes.step (B := T24.setTop (mkF m 143 #[.val (.int i0), .val (.long i1), .second, .val (.long i2), .second, .val (.int i3), .val (.int i4), .val (.ref b1), .val (.ref b4), .val (.int (0 : Int32)), .val (.ref b7), .val (.int (i4 &&& (31 : Int32))), .val (.ref b14), .val (.ref b18), .unset, .unset] [(.long i2), (.ref b1), (.long i1), (.int (48 : Int32)), (.ref b24), (.ref b24)])) (fun _ k => XS.lloadN X24.here hx rfl (hb hby at_142) rfl k) ?_
    obtain ⟨_, _, ⟨T29, L29, k29, n29⟩, -, X29, ⟨Lc29, hQ29, l29, y29, z29⟩, st29⟩ := X24.specialBack hx (y := (⟨"com/example/gridclear/gridclear/cms/Ber$Header", "<init>", "(IJ[BJ)V"⟩ : MethodName)) rfl hown (mvT hZ (hw _ (List.mem_of_getElem? (i := 4) rfl))) (mvT hZ (hw _ (List.mem_of_getElem? (i := 5) rfl))) (mvT hZ (hw _ (List.mem_of_getElem? (i := 6) rfl))) (by decide) (backOf (W := 1) (rm1 l Z a0 hw [] b24 (48 : Int32) i1 b1 i2 h24 n0 O_24 A24 g_b24 F24_tag F24_length F24_head F24_contentStart) hZ (hw _ (List.mem_of_getElem? (i := 6) rfl)) (hw _ (List.mem_of_getElem? (i := 3) rfl)) (by decide) (by decide)) (g := (mkF m 143 #[.val (.int i0), .val (.long i1), .second, .val (.long i2), .second, .val (.int i3), .val (.int i4), .val (.ref b1), .val (.ref b4), .val (.int (0 : Int32)), .val (.ref b7), .val (.int (i4 &&& (31 : Int32))), .val (.ref b14), .val (.ref b18), .unset, .unset] [(.long i2), (.ref b1), (.long i1), (.int (48 : Int32)), (.ref b24), (.ref b24)])) rfl (by rw [hml]; rfl) (Steps.refl _) (a := b24) (argsL := [(.int (48 : Int32)), (.long i1), (.ref b1), (.long i2)]) (rest := [(.ref b24)]) (lenOf pd_1 rfl) rfl (by show 2 * 0 + _ ≤ _; exact Nat.le_of_eq rfl) (hb hby at_143) (fun _ _ => ⟨rfl, e24, (by decide : 6 + 0 ≤ _), (by decide : 22 + 0 ≤ _)⟩)
    dsimp only [Pt.U, Pt.locs, Pt.cells, Pt.slots] at X29 l29 y29 z29 st29 hQ29
    subst l29 y29 z29
    obtain ⟨rfl, Nq29, Kp29, Ex29, Fc29_tag, Fc29_length, Fc29_head, Fc29_contentStart⟩ := hQ29
    have O_29 := O_24.keep Kp29 (allS g_b24 all0)
    have N29 := Fr.app N23 Nq29
    refine Goes.via (B := T29.setTop (mkF m 146 #[.val (.int i0), .val (.long i1), .second, .val (.long i2), .second, .val (.int i3), .val (.int i4), .val (.ref b1), .val (.ref b4), .val (.int (0 : Int32)), .val (.ref b7), .val (.int (i4 &&& (31 : Int32))), .val (.ref b14), .val (.ref b18), .unset, .unset] [(.ref b24)])) st29 ?_
    refine Goes.step (B := T29.setTop (mkF m 148 #[.val (.int i0), .val (.long i1), .second, .val (.long i2), .second, .val (.int i3), .val (.int i4), .val (.ref b1), .val (.ref b4), .val (.int (0 : Int32)), .val (.ref b7), .val (.int (i4 &&& (31 : Int32))), .val (.ref b14), .val (.ref b18), .val (.ref b24), .unset] [])) (fun _ k => XS.astore X29.here hx rfl (hb hby at_146) rfl rfl (l' := #[.val (.int i0), .val (.long i1), .second, .val (.long i2), .second, .val (.int i3), .val (.int i4), .val (.ref b1), .val (.ref b4), .val (.int (0 : Int32)), .val (.ref b7), .val (.int (i4 &&& (31 : Int32))), .val (.ref b14), .val (.ref b18), .val (.ref b24), .unset]) rfl k) ?_
    obtain ⟨T30, h30, X30, e30, E30, A30, D30, -, st30⟩ := newO X29 hx hZ hown (hw _ (List.mem_of_getElem? (i := 1) rfl)) (hw _ (List.mem_of_getElem? (i := 2) rfl)) (hw _ (List.mem_of_getElem? (i := 3) rfl)) rfl (g := (mkF m 148 #[.val (.int i0), .val (.long i1), .second, .val (.long i2), .second, .val (.int i3), .val (.int i4), .val (.ref b1), .val (.ref b4), .val (.int (0 : Int32)), .val (.ref b7), .val (.int (i4 &&& (31 : Int32))), .val (.ref b14), .val (.ref b18), .val (.ref b24), .unset] [])) rfl (hb hby at_148) (by decide) (by decide)
    obtain ⟨b30, g30⟩ : ∃ z, z = T29.heap.size := ⟨_, rfl⟩
    rw [← g30] at A30 D30 st30
    have f31 := ((f25.ext E24).keep Kp29 (ninS ne_b1_b24 nin0))
    have ne_b1_b30 : b1 ≠ b30 := Nat.ne_of_lt (Nat.lt_of_lt_of_le f31.lt (Nat.le_of_eq g30.symm))
    have f32 := ((f26.ext E24).keep Kp29)
    have ne_b4_b30 : b4 ≠ b30 := Nat.ne_of_lt (Nat.lt_of_lt_of_le f32.lt (Nat.le_of_eq g30.symm))
    have f33 := ((f27.ext E24).keep Kp29)
    have ne_b7_b30 : b7 ≠ b30 := Nat.ne_of_lt (Nat.lt_of_lt_of_le f33.lt (Nat.le_of_eq g30.symm))
    have f34 := ((f28.ext E24).keep Kp29)
    have ne_b14_b30 : b14 ≠ b30 := Nat.ne_of_lt (Nat.lt_of_lt_of_le f34.lt (Nat.le_of_eq g30.symm))
    have f35 := ((Ex23.ext E24).keep Kp29)
    have ne_b18_b30 : b18 ≠ b30 := Nat.ne_of_lt (Nat.lt_of_lt_of_le f35.lt (Nat.le_of_eq g30.symm))
    have ne_b24_b30 : b24 ≠ b30 := Nat.ne_of_lt (Nat.lt_of_lt_of_le Ex29.lt (Nat.le_of_eq g30.symm))
    have g_b30 : n0 ≤ b30 := Nat.le_trans (own_z O_29) (Nat.le_of_eq g30.symm)
    have O_30 := O_29.ext E30
    have F30_tag : Fld Z h30 b30 "com/example/gridclear/gridclear/cms/Ber$Header" "tag" "I" (.int (0 : Int32)) := D30 (Or.inr (hw _ (List.mem_of_getElem? (i := 16) rfl))) (ty := .int) (by decide)
    have F30_length : Fld Z h30 b30 "com/example/gridclear/gridclear/cms/Ber$Header" "length" "J" (.long (0 : Int64)) := D30 (Or.inr (hw _ (List.mem_of_getElem? (i := 18) rfl))) (ty := .long) (by decide)
    have F30_head : Fld Z h30 b30 "com/example/gridclear/gridclear/cms/Ber$Header" "head" "[B" .null := D30 (Or.inr (hw _ (List.mem_of_getElem? (i := 20) rfl))) (ty := (.array .byte)) (by decide)
    have F30_contentStart : Fld Z h30 b30 "com/example/gridclear/gridclear/cms/Ber$Header" "contentStart" "J" (.long (0 : Int64)) := D30 (Or.inr (hw _ (List.mem_of_getElem? (i := 22) rfl))) (ty := .long) (by decide)
    refine Goes.step (B := T30.setTop (mkF m 151 #[.val (.int i0), .val (.long i1), .second, .val (.long i2), .second, .val (.int i3), .val (.int i4), .val (.ref b1), .val (.ref b4), .val (.int (0 : Int32)), .val (.ref b7), .val (.int (i4 &&& (31 : Int32))), .val (.ref b14), .val (.ref b18), .val (.ref b24), .unset] [(.ref b30)])) st30 ?_
    refine Goes.step (B := T30.setTop (mkF m 152 #[.val (.int i0), .val (.long i1), .second, .val (.long i2), .second, .val (.int i3), .val (.int i4), .val (.ref b1), .val (.ref b4), .val (.int (0 : Int32)), .val (.ref b7), .val (.int (i4 &&& (31 : Int32))), .val (.ref b14), .val (.ref b18), .val (.ref b24), .unset] [(.ref b30), (.ref b30)])) (fun _ k => XS.dup X30.here hx rfl (hb hby at_151) rfl rfl k) ?_
    refine Goes.step (B := T30.setTop (mkF m 153 #[.val (.int i0), .val (.long i1), .second, .val (.long i2), .second, .val (.int i3), .val (.int i4), .val (.ref b1), .val (.ref b4), .val (.int (0 : Int32)), .val (.ref b7), .val (.int (i4 &&& (31 : Int32))), .val (.ref b14), .val (.ref b18), .val (.ref b24), .unset] [(.int (4 : Int32)), (.ref b30), (.ref b30)])) (fun _ k => XS.iconst X30.here hx rfl (hb hby at_152) k) ?_
    refine Goes.step (B := T30.setTop (mkF m 154 #[.val (.int i0), .val (.long i1), .second, .val (.long i2), .second, .val (.int i3), .val (.int i4), .val (.ref b1), .val (.ref b4), .val (.int (0 : Int32)), .val (.ref b7), .val (.int (i4 &&& (31 : Int32))), .val (.ref b14), .val (.ref b18), .val (.ref b24), .unset] [(.long i1), (.int (4 : Int32)), (.ref b30), (.ref b30)])) (fun _ k => XS.lloadN X30.here hx rfl (hb hby at_153) rfl k) ?_
    refine Goes.step (B := T30.setTop (mkF m 156 #[.val (.int i0), .val (.long i1), .second, .val (.long i2), .second, .val (.int i3), .val (.int i4), .val (.ref b1), .val (.ref b4), .val (.int (0 : Int32)), .val (.ref b7), .val (.int (i4 &&& (31 : Int32))), .val (.ref b14), .val (.ref b18), .val (.ref b24), .unset] [(.ref b1), (.long i1), (.int (4 : Int32)), (.ref b30), (.ref b30)])) (fun _ k => XS.aload X30.here hx rfl (hb hby at_154) rfl rfl k) ?_
    refine Goes.step (B := T30.setTop (mkF m 157 #[.val (.int i0), .val (.long i1), .second, .val (.long i2), .second, .val (.int i3), .val (.int i4), .val (.ref b1), .val (.ref b4), .val (.int (0 : Int32)), .val (.ref b7), .val (.int (i4 &&& (31 : Int32))), .val (.ref b14), .val (.ref b18), .val (.ref b24), .unset] [(.long i2), (.ref b1), (.long i1), (.int (4 : Int32)), (.ref b30), (.ref b30)])) (fun _ k => XS.lloadN X30.here hx rfl (hb hby at_156) rfl k) ?_
    obtain ⟨_, _, ⟨T36, L36, k36, n36⟩, -, X36, ⟨Lc36, hQ36, l36, y36, z36⟩, st36⟩ := X30.specialBack hx (y := (⟨"com/example/gridclear/gridclear/cms/Ber$Header", "<init>", "(IJ[BJ)V"⟩ : MethodName)) rfl hown (mvT hZ (hw _ (List.mem_of_getElem? (i := 4) rfl))) (mvT hZ (hw _ (List.mem_of_getElem? (i := 5) rfl))) (mvT hZ (hw _ (List.mem_of_getElem? (i := 6) rfl))) (by decide) (backOf (W := 1) (rm1 l Z a0 hw [] b30 (4 : Int32) i1 b1 i2 h30 n0 O_30 A30 g_b30 F30_tag F30_length F30_head F30_contentStart) hZ (hw _ (List.mem_of_getElem? (i := 6) rfl)) (hw _ (List.mem_of_getElem? (i := 3) rfl)) (by decide) (by decide)) (g := (mkF m 157 #[.val (.int i0), .val (.long i1), .second, .val (.long i2), .second, .val (.int i3), .val (.int i4), .val (.ref b1), .val (.ref b4), .val (.int (0 : Int32)), .val (.ref b7), .val (.int (i4 &&& (31 : Int32))), .val (.ref b14), .val (.ref b18), .val (.ref b24), .unset] [(.long i2), (.ref b1), (.long i1), (.int (4 : Int32)), (.ref b30), (.ref b30)])) rfl (by rw [hml]; rfl) (Steps.refl _) (a := b30) (argsL := [(.int (4 : Int32)), (.long i1), (.ref b1), (.long i2)]) (rest := [(.ref b30)]) (lenOf pd_1 rfl) rfl (by show 2 * 0 + _ ≤ _; exact Nat.le_of_eq rfl) (hb hby at_157) (fun _ _ => ⟨rfl, e30, (by decide : 7 + 0 ≤ _), (by decide : 26 + 0 ≤ _)⟩)
    dsimp only [Pt.U, Pt.locs, Pt.cells, Pt.slots] at X36 l36 y36 z36 st36 hQ36
    subst l36 y36 z36
    obtain ⟨rfl, Nq36, Kp36, Ex36, Fc36_tag, Fc36_length, Fc36_head, Fc36_contentStart⟩ := hQ36
    have O_36 := O_30.keep Kp36 (allS g_b30 all0)
    have N36 := Fr.app N29 Nq36
    refine Goes.via (B := T36.setTop (mkF m 160 #[.val (.int i0), .val (.long i1), .second, .val (.long i2), .second, .val (.int i3), .val (.int i4), .val (.ref b1), .val (.ref b4), .val (.int (0 : Int32)), .val (.ref b7), .val (.int (i4 &&& (31 : Int32))), .val (.ref b14), .val (.ref b18), .val (.ref b24), .unset] [(.ref b30)])) st36 ?_
    refine Goes.step (B := T36.setTop (mkF m 162 #[.val (.int i0), .val (.long i1), .second, .val (.long i2), .second, .val (.int i3), .val (.int i4), .val (.ref b1), .val (.ref b4), .val (.int (0 : Int32)), .val (.ref b7), .val (.int (i4 &&& (31 : Int32))), .val (.ref b14), .val (.ref b18), .val (.ref b24), .val (.ref b30)] [])) (fun _ k => XS.astore X36.here hx rfl (hb hby at_160) rfl rfl (l' := #[.val (.int i0), .val (.long i1), .second, .val (.long i2), .second, .val (.int i3), .val (.int i4), .val (.ref b1), .val (.ref b4), .val (.int (0 : Int32)), .val (.ref b7), .val (.int (i4 &&& (31 : Int32))), .val (.ref b14), .val (.ref b18), .val (.ref b24), .val (.ref b30)]) rfl k) ?_
    refine Goes.step (B := T36.setTop (mkF m 164 #[.val (.int i0), .val (.long i1), .second, .val (.long i2), .second, .val (.int i3), .val (.int i4), .val (.ref b1), .val (.ref b4), .val (.int (0 : Int32)), .val (.ref b7), .val (.int (i4 &&& (31 : Int32))), .val (.ref b14), .val (.ref b18), .val (.ref b24), .val (.ref b30)] [(.ref b14)])) (fun _ k => XS.aload X36.here hx rfl (hb hby at_162) rfl rfl k) ?_
    have f38 := ((((((Fc17_tag.ext E18).keep Kp23 (ninS ne_b14_b18 nin0)).ext E24).keep Kp29 (ninS ne_b14_b24 nin0)).ext E30).keep Kp36 (ninS ne_b14_b30 nin0))
    have f39 := ((f34.ext E30).keep Kp36)
    obtain ⟨cq37, kq37, qa37, qb37, qc37⟩ := isOf hZ rfl f39
    obtain ⟨_, _, ⟨T37, L37, k37, n37⟩, -, X37, ⟨Lc37, hQ37, l37, y37, z37⟩, st37⟩ := X36.virtualBack hx (y := (⟨"com/example/gridclear/gridclear/cms/Ber$Header", "constructed", "()Z"⟩ : MethodName)) (z := (⟨"com/example/gridclear/gridclear/cms/Ber$Header", "constructed", "()Z"⟩ : MethodName)) hown (mvT hZ (hw _ (List.mem_of_getElem? (i := 23) rfl))) (mvT hZ (hw _ (List.mem_of_getElem? (i := 24) rfl))) (notFace_of_selects (args := #[]) (mvT hZ (hw _ (List.mem_of_getElem? (i := 26) rfl)))) (mvT hZ (hw _ (List.mem_of_getElem? (i := 26) rfl))) (mvT hZ (hw _ (List.mem_of_getElem? (i := 25) rfl))) (by decide) (backOf (W := 0) (rmc1 l Z a0 hw [] b14 ((160 : Int32) ||| (i4 &&& (31 : Int32))) T36.heap n0 O_36 q31.1 f38) hZ (hw _ (List.mem_of_getElem? (i := 27) rfl)) (hw _ (List.mem_of_getElem? (i := 3) rfl)) (by decide) (by decide)) qa37 qc37 (g := (mkF m 164 #[.val (.int i0), .val (.long i1), .second, .val (.long i2), .second, .val (.int i3), .val (.int i4), .val (.ref b1), .val (.ref b4), .val (.int (0 : Int32)), .val (.ref b7), .val (.int (i4 &&& (31 : Int32))), .val (.ref b14), .val (.ref b18), .val (.ref b24), .val (.ref b30)] [(.ref b14)])) rfl (by rw [hml]; rfl) (Steps.refl _) (argsL := []) (rest := []) (lenOf pd_2 rfl) rfl (by show 2 * 0 + _ ≤ _; exact Nat.le_of_eq rfl) (hb hby at_164) (fun _ _ => ⟨rfl, rfl, (by decide : 7 + 0 ≤ _), (by decide : 26 + 0 ≤ _)⟩)
    dsimp only [Pt.U, Pt.locs, Pt.cells, Pt.slots] at X37 l37 y37 z37 st37 hQ37
    subst l37 y37 z37
    obtain ⟨rfl, Nq37, eh37⟩ := hQ37
    have N37 := Fr.app N36 Nq37
    refine Goes.via (B := T37.setTop (mkF m 167 #[.val (.int i0), .val (.long i1), .second, .val (.long i2), .second, .val (.int i3), .val (.int i4), .val (.ref b1), .val (.ref b4), .val (.int (0 : Int32)), .val (.ref b7), .val (.int (i4 &&& (31 : Int32))), .val (.ref b14), .val (.ref b18), .val (.ref b24), .val (.ref b30)] [(.int (1 : Int32))])) st37 ?_
    refine Goes.step (B := T37.setTop (mkF m 170 #[.val (.int i0), .val (.long i1), .second, .val (.long i2), .second, .val (.int i3), .val (.int i4), .val (.ref b1), .val (.ref b4), .val (.int (0 : Int32)), .val (.ref b7), .val (.int (i4 &&& (31 : Int32))), .val (.ref b14), .val (.ref b18), .val (.ref b24), .val (.ref b30)] [])) (fun _ k => XS.ifNo X37.here hx rfl (hb hby at_167) rfl ((if0 _ _).trans (feq (by decide)).1) k) ?_
    refine Goes.step (B := T37.setTop (mkF m 172 #[.val (.int i0), .val (.long i1), .second, .val (.long i2), .second, .val (.int i3), .val (.int i4), .val (.ref b1), .val (.ref b4), .val (.int (0 : Int32)), .val (.ref b7), .val (.int (i4 &&& (31 : Int32))), .val (.ref b14), .val (.ref b18), .val (.ref b24), .val (.ref b30)] [(.ref b18)])) (fun _ k => XS.aload X37.here hx rfl (hb hby at_170) rfl rfl k) ?_
    have f41 := ((((Fc23_tag.ext E24).keep Kp29 (ninS ne_b18_b24 nin0)).ext E30).keep Kp36 (ninS ne_b18_b30 nin0))
    have f42 := ((f35.ext E30).keep Kp36)
    obtain ⟨cq40, kq40, qa40, qb40, qc40⟩ := isOf hZ eh37 f42
    obtain ⟨_, _, ⟨T40, L40, k40, n40⟩, -, X40, ⟨Lc40, hQ40, l40, y40, z40⟩, st40⟩ := X37.virtualBack hx (y := (⟨"com/example/gridclear/gridclear/cms/Ber$Header", "constructed", "()Z"⟩ : MethodName)) (z := (⟨"com/example/gridclear/gridclear/cms/Ber$Header", "constructed", "()Z"⟩ : MethodName)) hown (mvT hZ (hw _ (List.mem_of_getElem? (i := 23) rfl))) (mvT hZ (hw _ (List.mem_of_getElem? (i := 24) rfl))) (notFace_of_selects (args := #[]) (mvT hZ (hw _ (List.mem_of_getElem? (i := 26) rfl)))) (mvT hZ (hw _ (List.mem_of_getElem? (i := 26) rfl))) (mvT hZ (hw _ (List.mem_of_getElem? (i := 25) rfl))) (by decide) (backOf (W := 0) (rmc0 l Z a0 hw [] b18 ((128 : Int32) ||| (i4 &&& (31 : Int32))) T36.heap n0 O_36 q31.2 f41) hZ (hw _ (List.mem_of_getElem? (i := 27) rfl)) (hw _ (List.mem_of_getElem? (i := 3) rfl)) (by decide) (by decide)) qa40 qc40 (g := (mkF m 172 #[.val (.int i0), .val (.long i1), .second, .val (.long i2), .second, .val (.int i3), .val (.int i4), .val (.ref b1), .val (.ref b4), .val (.int (0 : Int32)), .val (.ref b7), .val (.int (i4 &&& (31 : Int32))), .val (.ref b14), .val (.ref b18), .val (.ref b24), .val (.ref b30)] [(.ref b18)])) rfl (by rw [hml]; rfl) (Steps.refl _) (argsL := []) (rest := []) (lenOf pd_2 rfl) rfl (by show 2 * 0 + _ ≤ _; exact Nat.le_of_eq rfl) (hb hby at_172) (fun _ _ => ⟨rfl, eh37, (by decide : 7 + 0 ≤ _), (by decide : 26 + 0 ≤ _)⟩)
    dsimp only [Pt.U, Pt.locs, Pt.cells, Pt.slots] at X40 l40 y40 z40 st40 hQ40
    subst l40 y40 z40
    obtain ⟨rfl, Nq40, eh40⟩ := hQ40
    have N40 := Fr.app N37 Nq40
    refine Goes.via (B := T40.setTop (mkF m 175 #[.val (.int i0), .val (.long i1), .second, .val (.long i2), .second, .val (.int i3), .val (.int i4), .val (.ref b1), .val (.ref b4), .val (.int (0 : Int32)), .val (.ref b7), .val (.int (i4 &&& (31 : Int32))), .val (.ref b14), .val (.ref b18), .val (.ref b24), .val (.ref b30)] [(.int (0 : Int32))])) st40 ?_
    refine Goes.step (B := T40.setTop (mkF m 178 #[.val (.int i0), .val (.long i1), .second, .val (.long i2), .second, .val (.int i3), .val (.int i4), .val (.ref b1), .val (.ref b4), .val (.int (0 : Int32)), .val (.ref b7), .val (.int (i4 &&& (31 : Int32))), .val (.ref b14), .val (.ref b18), .val (.ref b24), .val (.ref b30)] [])) (fun _ k => XS.ifNo X40.here hx rfl (hb hby at_175) rfl ((if0 _ _).trans (teq (by decide)).2) k) ?_
    refine Goes.step (B := T40.setTop (mkF m 180 #[.val (.int i0), .val (.long i1), .second, .val (.long i2), .second, .val (.int i3), .val (.int i4), .val (.ref b1), .val (.ref b4), .val (.int (0 : Int32)), .val (.ref b7), .val (.int (i4 &&& (31 : Int32))), .val (.ref b14), .val (.ref b18), .val (.ref b24), .val (.ref b30)] [(.ref b24)])) (fun _ k => XS.aload X40.here hx rfl (hb hby at_178) rfl rfl k) ?_
    have f44 := ((Fc29_tag.ext E30).keep Kp36 (ninS ne_b24_b30 nin0))
    have f45 := ((Ex29.ext E30).keep Kp36)
    obtain ⟨cq43, kq43, qa43, qb43, qc43⟩ := isOf hZ eh40 f45
    obtain ⟨_, _, ⟨T43, L43, k43, n43⟩, -, X43, ⟨Lc43, hQ43, l43, y43, z43⟩, st43⟩ := X40.virtualBack hx (y := (⟨"com/example/gridclear/gridclear/cms/Ber$Header", "constructed", "()Z"⟩ : MethodName)) (z := (⟨"com/example/gridclear/gridclear/cms/Ber$Header", "constructed", "()Z"⟩ : MethodName)) hown (mvT hZ (hw _ (List.mem_of_getElem? (i := 23) rfl))) (mvT hZ (hw _ (List.mem_of_getElem? (i := 24) rfl))) (notFace_of_selects (args := #[]) (mvT hZ (hw _ (List.mem_of_getElem? (i := 26) rfl)))) (mvT hZ (hw _ (List.mem_of_getElem? (i := 26) rfl))) (mvT hZ (hw _ (List.mem_of_getElem? (i := 25) rfl))) (by decide) (backOf (W := 0) (rmc1 l Z a0 hw [] b24 (48 : Int32) T36.heap n0 O_36 (by decide) f44) hZ (hw _ (List.mem_of_getElem? (i := 27) rfl)) (hw _ (List.mem_of_getElem? (i := 3) rfl)) (by decide) (by decide)) qa43 qc43 (g := (mkF m 180 #[.val (.int i0), .val (.long i1), .second, .val (.long i2), .second, .val (.int i3), .val (.int i4), .val (.ref b1), .val (.ref b4), .val (.int (0 : Int32)), .val (.ref b7), .val (.int (i4 &&& (31 : Int32))), .val (.ref b14), .val (.ref b18), .val (.ref b24), .val (.ref b30)] [(.ref b24)])) rfl (by rw [hml]; rfl) (Steps.refl _) (argsL := []) (rest := []) (lenOf pd_2 rfl) rfl (by show 2 * 0 + _ ≤ _; exact Nat.le_of_eq rfl) (hb hby at_180) (fun _ _ => ⟨rfl, eh40, (by decide : 7 + 0 ≤ _), (by decide : 26 + 0 ≤ _)⟩)
    dsimp only [Pt.U, Pt.locs, Pt.cells, Pt.slots] at X43 l43 y43 z43 st43 hQ43
    subst l43 y43 z43
    obtain ⟨rfl, Nq43, eh43⟩ := hQ43
    have N43 := Fr.app N40 Nq43
    refine Goes.via (B := T43.setTop (mkF m 183 #[.val (.int i0), .val (.long i1), .second, .val (.long i2), .second, .val (.int i3), .val (.int i4), .val (.ref b1), .val (.ref b4), .val (.int (0 : Int32)), .val (.ref b7), .val (.int (i4 &&& (31 : Int32))), .val (.ref b14), .val (.ref b18), .val (.ref b24), .val (.ref b30)] [(.int (1 : Int32))])) st43 ?_
    refine Goes.step (B := T43.setTop (mkF m 186 #[.val (.int i0), .val (.long i1), .second, .val (.long i2), .second, .val (.int i3), .val (.int i4), .val (.ref b1), .val (.ref b4), .val (.int (0 : Int32)), .val (.ref b7), .val (.int (i4 &&& (31 : Int32))), .val (.ref b14), .val (.ref b18), .val (.ref b24), .val (.ref b30)] [])) (fun _ k => XS.ifNo X43.here hx rfl (hb hby at_183) rfl ((if0 _ _).trans (feq (by decide)).1) k) ?_
    refine Goes.step (B := T43.setTop (mkF m 188 #[.val (.int i0), .val (.long i1), .second, .val (.long i2), .second, .val (.int i3), .val (.int i4), .val (.ref b1), .val (.ref b4), .val (.int (0 : Int32)), .val (.ref b7), .val (.int (i4 &&& (31 : Int32))), .val (.ref b14), .val (.ref b18), .val (.ref b24), .val (.ref b30)] [(.ref b30)])) (fun _ k => XS.aload X43.here hx rfl (hb hby at_186) rfl rfl k) ?_
    obtain ⟨cq46, kq46, qa46, qb46, qc46⟩ := isOf hZ eh43 Ex36
    obtain ⟨_, _, ⟨T46, L46, k46, n46⟩, -, X46, ⟨Lc46, hQ46, l46, y46, z46⟩, st46⟩ := X43.virtualBack hx (y := (⟨"com/example/gridclear/gridclear/cms/Ber$Header", "constructed", "()Z"⟩ : MethodName)) (z := (⟨"com/example/gridclear/gridclear/cms/Ber$Header", "constructed", "()Z"⟩ : MethodName)) hown (mvT hZ (hw _ (List.mem_of_getElem? (i := 23) rfl))) (mvT hZ (hw _ (List.mem_of_getElem? (i := 24) rfl))) (notFace_of_selects (args := #[]) (mvT hZ (hw _ (List.mem_of_getElem? (i := 26) rfl)))) (mvT hZ (hw _ (List.mem_of_getElem? (i := 26) rfl))) (mvT hZ (hw _ (List.mem_of_getElem? (i := 25) rfl))) (by decide) (backOf (W := 0) (rmc0 l Z a0 hw [] b30 (4 : Int32) T36.heap n0 O_36 (by decide) Fc36_tag) hZ (hw _ (List.mem_of_getElem? (i := 27) rfl)) (hw _ (List.mem_of_getElem? (i := 3) rfl)) (by decide) (by decide)) qa46 qc46 (g := (mkF m 188 #[.val (.int i0), .val (.long i1), .second, .val (.long i2), .second, .val (.int i3), .val (.int i4), .val (.ref b1), .val (.ref b4), .val (.int (0 : Int32)), .val (.ref b7), .val (.int (i4 &&& (31 : Int32))), .val (.ref b14), .val (.ref b18), .val (.ref b24), .val (.ref b30)] [(.ref b30)])) rfl (by rw [hml]; rfl) (Steps.refl _) (argsL := []) (rest := []) (lenOf pd_2 rfl) rfl (by show 2 * 0 + _ ≤ _; exact Nat.le_of_eq rfl) (hb hby at_188) (fun _ _ => ⟨rfl, eh43, (by decide : 7 + 0 ≤ _), (by decide : 26 + 0 ≤ _)⟩)
    dsimp only [Pt.U, Pt.locs, Pt.cells, Pt.slots] at X46 l46 y46 z46 st46 hQ46
    subst l46 y46 z46
    obtain ⟨rfl, Nq46, eh46⟩ := hQ46
    have N46 := Fr.app N43 Nq46
    refine Goes.via (B := T46.setTop (mkF m 191 #[.val (.int i0), .val (.long i1), .second, .val (.long i2), .second, .val (.int i3), .val (.int i4), .val (.ref b1), .val (.ref b4), .val (.int (0 : Int32)), .val (.ref b7), .val (.int (i4 &&& (31 : Int32))), .val (.ref b14), .val (.ref b18), .val (.ref b24), .val (.ref b30)] [(.int (0 : Int32))])) st46 ?_
    refine Goes.step (B := T46.setTop (mkF m 194 #[.val (.int i0), .val (.long i1), .second, .val (.long i2), .second, .val (.int i3), .val (.int i4), .val (.ref b1), .val (.ref b4), .val (.int (0 : Int32)), .val (.ref b7), .val (.int (i4 &&& (31 : Int32))), .val (.ref b14), .val (.ref b18), .val (.ref b24), .val (.ref b30)] [])) (fun _ k => XS.ifNo X46.here hx rfl (hb hby at_191) rfl ((if0 _ _).trans (teq (by decide)).2) k) ?_
    refine Goes.step (B := T46.setTop (mkF m 195 #[.val (.int i0), .val (.long i1), .second, .val (.long i2), .second, .val (.int i3), .val (.int i4), .val (.ref b1), .val (.ref b4), .val (.int (0 : Int32)), .val (.ref b7), .val (.int (i4 &&& (31 : Int32))), .val (.ref b14), .val (.ref b18), .val (.ref b24), .val (.ref b30)] [(.int (1 : Int32))])) (fun _ k => XS.iconst X46.here hx rfl (hb hby at_194) k) ?_
    refine Goes.step (B := T46.setTop (mkF m 199 #[.val (.int i0), .val (.long i1), .second, .val (.long i2), .second, .val (.int i3), .val (.int i4), .val (.ref b1), .val (.ref b4), .val (.int (0 : Int32)), .val (.ref b7), .val (.int (i4 &&& (31 : Int32))), .val (.ref b14), .val (.ref b18), .val (.ref b24), .val (.ref b30)] [(.int (1 : Int32))])) (fun _ k => XS.goto X46.here hx rfl (pc0 := 195) (pc' := 199) rfl (hb hby at_195) (by decide) (by decide) k) ?_
    exact Goes.retN X46 hx eh46 (t := .boolean) Bd.returns (by simp) hlk (hb hby at_199) (by decide) (by decide) (⟨rfl, N46⟩)
  · have hx1 : (i0 ^^^ (32 : Int32)) &&& 32 = 0 := q63.2.symm ▸ hbt
    have hlt : ¬ (i0 &&& (63 : Int32)) < (32 : Int32) := fun q => hbt (q63.1.symm ▸ q)
    refine Goes.step (B := s₁.setTop (mkF m 1 #[.val (.int i0), .val (.long i1), .second, .val (.long i2), .second, .val (.int i3), .val (.int i4), .unset, .unset, .unset, .unset, .unset, .unset, .unset, .unset, .unset] [(.int (2 : Int32))])) (fun _ k => XS.iconst X0.here hx rfl (hb hby at_0) k) ?_
    obtain ⟨T47, h47, k47, X47, e47, E47, A47, st47⟩ := newP X0 hx hZ (hw _ (List.mem_of_getElem? (i := 0) rfl)) e0 (g := (mkF m 1 #[.val (.int i0), .val (.long i1), .second, .val (.long i2), .second, .val (.int i3), .val (.int i4), .unset, .unset, .unset, .unset, .unset, .unset, .unset, .unset, .unset] [(.int (2 : Int32))])) rfl (hb hby at_1) rfl (by decide) (cap := 2) (by decide) (by decide) (by decide) (by decide)
    obtain ⟨b47, g47⟩ : ∃ z, z = h0.size := ⟨_, rfl⟩
    rw [← g47] at A47 st47
    have g_b47 : n0 ≤ b47 := Nat.le_trans (own_z O0) (Nat.le_of_eq g47.symm)
    have O_47 := O0.ext E47
    have V_b47 : Arv Z h47 b47 k47 .byte (2 : Int32) [(.int (0 : Int32)), (.int (0 : Int32))] (.int (0 : Int32)) := (Arv.new A47 (by decide)).pad (pad_rep [] (.int (0 : Int32)) 2)
    refine Goes.step (B := T47.setTop (mkF m 3 #[.val (.int i0), .val (.long i1), .second, .val (.long i2), .second, .val (.int i3), .val (.int i4), .unset, .unset, .unset, .unset, .unset, .unset, .unset, .unset, .unset] [(.ref b47)])) st47 ?_
    refine Goes.step (B := T47.setTop (mkF m 4 #[.val (.int i0), .val (.long i1), .second, .val (.long i2), .second, .val (.int i3), .val (.int i4), .unset, .unset, .unset, .unset, .unset, .unset, .unset, .unset, .unset] [(.ref b47), (.ref b47)])) (fun _ k => XS.dup X47.here hx rfl (hb hby at_3) rfl rfl k) ?_
    refine Goes.step (B := T47.setTop (mkF m 5 #[.val (.int i0), .val (.long i1), .second, .val (.long i2), .second, .val (.int i3), .val (.int i4), .unset, .unset, .unset, .unset, .unset, .unset, .unset, .unset, .unset] [(.int (0 : Int32)), (.ref b47), (.ref b47)])) (fun _ k => XS.iconst X47.here hx rfl (hb hby at_4) k) ?_
    refine Goes.step (B := T47.setTop (mkF m 6 #[.val (.int i0), .val (.long i1), .second, .val (.long i2), .second, .val (.int i3), .val (.int i4), .unset, .unset, .unset, .unset, .unset, .unset, .unset, .unset, .unset] [(.int i0), (.int (0 : Int32)), (.ref b47), (.ref b47)])) (fun _ k => XS.iloadN X47.here hx rfl (hb hby at_5) rfl k) ?_
    refine Goes.step (B := T47.setTop (mkF m 7 #[.val (.int i0), .val (.long i1), .second, .val (.long i2), .second, .val (.int i3), .val (.int i4), .unset, .unset, .unset, .unset, .unset, .unset, .unset, .unset, .unset] [(.int (i0.toInt8.toInt32)), (.int (0 : Int32)), (.ref b47), (.ref b47)])) (fun _ k => XS.i2b X47.here hx rfl (hb hby at_6) rfl k) ?_
    obtain ⟨c48, Ar48, q48, Sz48, Nn48, Hs48, Gs48⟩ := V_b47
    have hin48 : ¬ ((0 : Int32) < 0 ∨ c48.slots.size ≤ ((0 : Int32)).toNatClampNeg) := inb_of Sz48 ⟨by decide, by decide⟩
    obtain ⟨T48, h48, X48, e48, W48, st48⟩ := stB X47 hx hZ e47 Ar48 (j := (0 : Int32)) hin48 (g := (mkF m 7 #[.val (.int i0), .val (.long i1), .second, .val (.long i2), .second, .val (.int i3), .val (.int i4), .unset, .unset, .unset, .unset, .unset, .unset, .unset, .unset, .unset] [(.int (i0.toInt8.toInt32)), (.int (0 : Int32)), (.ref b47), (.ref b47)])) rfl rfl (hb hby at_7)
    have V48 : Arv Z h48 b47 k47 .byte (2 : Int32) [(.int (nar .byte (i0.toInt8.toInt32))), (.int (0 : Int32))] (.int (0 : Int32)) := Arv.set Ar48 q48 Sz48 Nn48 Hs48 Gs48 (fits_nar_byte _) W48 0 rfl (Nat.le_of_ble_eq_true rfl)
    have N48 := Fr.snoc X48 N0 g_b47
    have O_48 := O_47.wr W48 g_b47
    refine Goes.step (B := T48.setTop (mkF m 8 #[.val (.int i0), .val (.long i1), .second, .val (.long i2), .second, .val (.int i3), .val (.int i4), .unset, .unset, .unset, .unset, .unset, .unset, .unset, .unset, .unset] [(.ref b47)])) st48 ?_
    refine Goes.step (B := T48.setTop (mkF m 9 #[.val (.int i0), .val (.long i1), .second, .val (.long i2), .second, .val (.int i3), .val (.int i4), .unset, .unset, .unset, .unset, .unset, .unset, .unset, .unset, .unset] [(.ref b47), (.ref b47)])) (fun _ k => XS.dup X48.here hx rfl (hb hby at_8) rfl rfl k) ?_
    refine Goes.step (B := T48.setTop (mkF m 10 #[.val (.int i0), .val (.long i1), .second, .val (.long i2), .second, .val (.int i3), .val (.int i4), .unset, .unset, .unset, .unset, .unset, .unset, .unset, .unset, .unset] [(.int (1 : Int32)), (.ref b47), (.ref b47)])) (fun _ k => XS.iconst X48.here hx rfl (hb hby at_9) k) ?_
    refine Goes.step (B := T48.setTop (mkF m 12 #[.val (.int i0), .val (.long i1), .second, .val (.long i2), .second, .val (.int i3), .val (.int i4), .unset, .unset, .unset, .unset, .unset, .unset, .unset, .unset, .unset] [(.int i3), (.int (1 : Int32)), (.ref b47), (.ref b47)])) (fun _ k => XS.iload X48.here hx rfl (hb hby at_10) rfl k) ?_
    refine Goes.step (B := T48.setTop (mkF m 13 #[.val (.int i0), .val (.long i1), .second, .val (.long i2), .second, .val (.int i3), .val (.int i4), .unset, .unset, .unset, .unset, .unset, .unset, .unset, .unset, .unset] [(.int (i3.toInt8.toInt32)), (.int (1 : Int32)), (.ref b47), (.ref b47)])) (fun _ k => XS.i2b X48.here hx rfl (hb hby at_12) rfl k) ?_
    obtain ⟨c49, Ar49, q49, Sz49, Nn49, Hs49, Gs49⟩ := V48
    have hin49 : ¬ ((1 : Int32) < 0 ∨ c49.slots.size ≤ ((1 : Int32)).toNatClampNeg) := inb_of Sz49 ⟨by decide, by decide⟩
    obtain ⟨T49, h49, X49, e49, W49, st49⟩ := stB X48 hx hZ e48 Ar49 (j := (1 : Int32)) hin49 (g := (mkF m 13 #[.val (.int i0), .val (.long i1), .second, .val (.long i2), .second, .val (.int i3), .val (.int i4), .unset, .unset, .unset, .unset, .unset, .unset, .unset, .unset, .unset] [(.int (i3.toInt8.toInt32)), (.int (1 : Int32)), (.ref b47), (.ref b47)])) rfl rfl (hb hby at_13)
    have V49 : Arv Z h49 b47 k47 .byte (2 : Int32) [(.int (nar .byte (i0.toInt8.toInt32))), (.int (nar .byte (i3.toInt8.toInt32)))] (.int (0 : Int32)) := Arv.set Ar49 q49 Sz49 Nn49 Hs49 Gs49 (fits_nar_byte _) W49 1 rfl (Nat.le_of_ble_eq_true rfl)
    have N49 := Fr.snoc X49 N48 g_b47
    have O_49 := O_48.wr W49 g_b47
    refine Goes.step (B := T49.setTop (mkF m 14 #[.val (.int i0), .val (.long i1), .second, .val (.long i2), .second, .val (.int i3), .val (.int i4), .unset, .unset, .unset, .unset, .unset, .unset, .unset, .unset, .unset] [(.ref b47)])) st49 ?_
    refine Goes.step (B := T49.setTop (mkF m 16 #[.val (.int i0), .val (.long i1), .second, .val (.long i2), .second, .val (.int i3), .val (.int i4), .val (.ref b47), .unset, .unset, .unset, .unset, .unset, .unset, .unset, .unset] [])) (fun _ k => XS.astore X49.here hx rfl (hb hby at_14) rfl rfl (l' := #[.val (.int i0), .val (.long i1), .second, .val (.long i2), .second, .val (.int i3), .val (.int i4), .val (.ref b47), .unset, .unset, .unset, .unset, .unset, .unset, .unset, .unset]) rfl k) ?_
    obtain ⟨T50, h50, X50, e50, E50, A50, D50, -, st50⟩ := newO X49 hx hZ hown (hw _ (List.mem_of_getElem? (i := 1) rfl)) (hw _ (List.mem_of_getElem? (i := 2) rfl)) (hw _ (List.mem_of_getElem? (i := 3) rfl)) e49 (g := (mkF m 16 #[.val (.int i0), .val (.long i1), .second, .val (.long i2), .second, .val (.int i3), .val (.int i4), .val (.ref b47), .unset, .unset, .unset, .unset, .unset, .unset, .unset, .unset] [])) rfl (hb hby at_16) (by decide) (by decide)
    obtain ⟨b50, g50⟩ : ∃ z, z = h49.size := ⟨_, rfl⟩
    rw [← g50] at A50 D50 st50
    have ne_b47_b50 : b47 ≠ b50 := Nat.ne_of_lt (Nat.lt_of_lt_of_le V49.lt (Nat.le_of_eq g50.symm))
    have g_b50 : n0 ≤ b50 := Nat.le_trans (own_z O_49) (Nat.le_of_eq g50.symm)
    have O_50 := O_49.ext E50
    have F50_tag : Fld Z h50 b50 "com/example/gridclear/gridclear/cms/Ber$Header" "tag" "I" (.int (0 : Int32)) := D50 (Or.inr (hw _ (List.mem_of_getElem? (i := 16) rfl))) (ty := .int) (by decide)
    have F50_length : Fld Z h50 b50 "com/example/gridclear/gridclear/cms/Ber$Header" "length" "J" (.long (0 : Int64)) := D50 (Or.inr (hw _ (List.mem_of_getElem? (i := 18) rfl))) (ty := .long) (by decide)
    have F50_head : Fld Z h50 b50 "com/example/gridclear/gridclear/cms/Ber$Header" "head" "[B" .null := D50 (Or.inr (hw _ (List.mem_of_getElem? (i := 20) rfl))) (ty := (.array .byte)) (by decide)
    have F50_contentStart : Fld Z h50 b50 "com/example/gridclear/gridclear/cms/Ber$Header" "contentStart" "J" (.long (0 : Int64)) := D50 (Or.inr (hw _ (List.mem_of_getElem? (i := 22) rfl))) (ty := .long) (by decide)
    refine Goes.step (B := T50.setTop (mkF m 19 #[.val (.int i0), .val (.long i1), .second, .val (.long i2), .second, .val (.int i3), .val (.int i4), .val (.ref b47), .unset, .unset, .unset, .unset, .unset, .unset, .unset, .unset] [(.ref b50)])) st50 ?_
    refine Goes.step (B := T50.setTop (mkF m 20 #[.val (.int i0), .val (.long i1), .second, .val (.long i2), .second, .val (.int i3), .val (.int i4), .val (.ref b47), .unset, .unset, .unset, .unset, .unset, .unset, .unset, .unset] [(.ref b50), (.ref b50)])) (fun _ k => XS.dup X50.here hx rfl (hb hby at_19) rfl rfl k) ?_
    refine Goes.step (B := T50.setTop (mkF m 21 #[.val (.int i0), .val (.long i1), .second, .val (.long i2), .second, .val (.int i3), .val (.int i4), .val (.ref b47), .unset, .unset, .unset, .unset, .unset, .unset, .unset, .unset] [(.int i0), (.ref b50), (.ref b50)])) (fun _ k => XS.iloadN X50.here hx rfl (hb hby at_20) rfl k) ?_
    refine Goes.step (B := T50.setTop (mkF m 22 #[.val (.int i0), .val (.long i1), .second, .val (.long i2), .second, .val (.int i3), .val (.int i4), .val (.ref b47), .unset, .unset, .unset, .unset, .unset, .unset, .unset, .unset] [(.long i1), (.int i0), (.ref b50), (.ref b50)])) (fun _ k => XS.lloadN X50.here hx rfl (hb hby at_21) rfl k) ?_
    refine Goes.step (B := T50.setTop (mkF m 24 #[.val (.int i0), .val (.long i1), .second, .val (.long i2), .second, .val (.int i3), .val (.int i4), .val (.ref b47), .unset, .unset, .unset, .unset, .unset, .unset, .unset, .unset] [(.ref b47), (.long i1), (.int i0), (.ref b50), (.ref b50)])) (fun _ k => XS.aload X50.here hx rfl (hb hby at_22) rfl rfl k) ?_
    refine Goes.step (B := T50.setTop (mkF m 25 #[.val (.int i0), .val (.long i1), .second, .val (.long i2), .second, .val (.int i3), .val (.int i4), .val (.ref b47), .unset, .unset, .unset, .unset, .unset, .unset, .unset, .unset] [(.long i2), (.ref b47), (.long i1), (.int i0), (.ref b50), (.ref b50)])) (fun _ k => XS.lloadN X50.here hx rfl (hb hby at_24) rfl k) ?_
    obtain ⟨_, _, ⟨T51, L51, k51, n51⟩, -, X51, ⟨Lc51, hQ51, l51, y51, z51⟩, st51⟩ := X50.specialBack hx (y := (⟨"com/example/gridclear/gridclear/cms/Ber$Header", "<init>", "(IJ[BJ)V"⟩ : MethodName)) rfl hown (mvT hZ (hw _ (List.mem_of_getElem? (i := 4) rfl))) (mvT hZ (hw _ (List.mem_of_getElem? (i := 5) rfl))) (mvT hZ (hw _ (List.mem_of_getElem? (i := 6) rfl))) (by decide) (backOf (W := 1) (rm1 l Z a0 hw [] b50 i0 i1 b47 i2 h50 n0 O_50 A50 g_b50 F50_tag F50_length F50_head F50_contentStart) hZ (hw _ (List.mem_of_getElem? (i := 6) rfl)) (hw _ (List.mem_of_getElem? (i := 3) rfl)) (by decide) (by decide)) (g := (mkF m 25 #[.val (.int i0), .val (.long i1), .second, .val (.long i2), .second, .val (.int i3), .val (.int i4), .val (.ref b47), .unset, .unset, .unset, .unset, .unset, .unset, .unset, .unset] [(.long i2), (.ref b47), (.long i1), (.int i0), (.ref b50), (.ref b50)])) rfl (by rw [hml]; rfl) (Steps.refl _) (a := b50) (argsL := [(.int i0), (.long i1), (.ref b47), (.long i2)]) (rest := [(.ref b50)]) (lenOf pd_1 rfl) rfl (by show 2 * 0 + _ ≤ _; exact Nat.le_of_eq rfl) (hb hby at_25) (fun _ _ => ⟨rfl, e50, (by decide : 2 + 0 ≤ _), (by decide : 6 + 0 ≤ _)⟩)
    dsimp only [Pt.U, Pt.locs, Pt.cells, Pt.slots] at X51 l51 y51 z51 st51 hQ51
    subst l51 y51 z51
    obtain ⟨rfl, Nq51, Kp51, Ex51, Fc51_tag, Fc51_length, Fc51_head, Fc51_contentStart⟩ := hQ51
    have O_51 := O_50.keep Kp51 (allS g_b50 all0)
    have N51 := Fr.app N49 Nq51
    refine Goes.via (B := T51.setTop (mkF m 28 #[.val (.int i0), .val (.long i1), .second, .val (.long i2), .second, .val (.int i3), .val (.int i4), .val (.ref b47), .unset, .unset, .unset, .unset, .unset, .unset, .unset, .unset] [(.ref b50)])) st51 ?_
    refine Goes.step (B := T51.setTop (mkF m 30 #[.val (.int i0), .val (.long i1), .second, .val (.long i2), .second, .val (.int i3), .val (.int i4), .val (.ref b47), .val (.ref b50), .unset, .unset, .unset, .unset, .unset, .unset, .unset] [])) (fun _ k => XS.astore X51.here hx rfl (hb hby at_28) rfl rfl (l' := #[.val (.int i0), .val (.long i1), .second, .val (.long i2), .second, .val (.int i3), .val (.int i4), .val (.ref b47), .val (.ref b50), .unset, .unset, .unset, .unset, .unset, .unset, .unset]) rfl k) ?_
    refine Goes.step (B := T51.setTop (mkF m 31 #[.val (.int i0), .val (.long i1), .second, .val (.long i2), .second, .val (.int i3), .val (.int i4), .val (.ref b47), .val (.ref b50), .unset, .unset, .unset, .unset, .unset, .unset, .unset] [(.int i0)])) (fun _ k => XS.iloadN X51.here hx rfl (hb hby at_30) rfl k) ?_
    refine Goes.step (B := T51.setTop (mkF m 33 #[.val (.int i0), .val (.long i1), .second, .val (.long i2), .second, .val (.int i3), .val (.int i4), .val (.ref b47), .val (.ref b50), .unset, .unset, .unset, .unset, .unset, .unset, .unset] [(.int (63 : Int32)), (.int i0)])) (fun _ k => XS.bipush X51.here hx rfl (hb hby at_31) k) ?_
    refine Goes.step (B := T51.setTop (mkF m 34 #[.val (.int i0), .val (.long i1), .second, .val (.long i2), .second, .val (.int i3), .val (.int i4), .val (.ref b47), .val (.ref b50), .unset, .unset, .unset, .unset, .unset, .unset, .unset] [(.int (i0 &&& (63 : Int32)))])) (fun _ k => XS.iand X51.here hx rfl (hb hby at_33) rfl k) ?_
    refine Goes.step (B := T51.setTop (mkF m 36 #[.val (.int i0), .val (.long i1), .second, .val (.long i2), .second, .val (.int i3), .val (.int i4), .val (.ref b47), .val (.ref b50), .unset, .unset, .unset, .unset, .unset, .unset, .unset] [(.int (32 : Int32)), (.int (i0 &&& (63 : Int32)))])) (fun _ k => XS.bipush X51.here hx rfl (hb hby at_34) k) ?_
    refine Goes.step (B := T51.setTop (mkF m 39 #[.val (.int i0), .val (.long i1), .second, .val (.long i2), .second, .val (.int i3), .val (.int i4), .val (.ref b47), .val (.ref b50), .unset, .unset, .unset, .unset, .unset, .unset, .unset] [])) (fun _ k => XS.icmpNo X51.here hx rfl (hb hby at_36) rfl (flt hlt).1 k) ?_
    refine Goes.step (B := T51.setTop (mkF m 40 #[.val (.int i0), .val (.long i1), .second, .val (.long i2), .second, .val (.int i3), .val (.int i4), .val (.ref b47), .val (.ref b50), .unset, .unset, .unset, .unset, .unset, .unset, .unset] [(.int (1 : Int32))])) (fun _ k => XS.iconst X51.here hx rfl (hb hby at_39) k) ?_
    refine Goes.step (B := T51.setTop (mkF m 44 #[.val (.int i0), .val (.long i1), .second, .val (.long i2), .second, .val (.int i3), .val (.int i4), .val (.ref b47), .val (.ref b50), .unset, .unset, .unset, .unset, .unset, .unset, .unset] [(.int (1 : Int32))])) (fun _ k => XS.goto X51.here hx rfl (pc0 := 40) (pc' := 44) rfl (hb hby at_40) (by decide) (by decide) k) ?_
    refine Goes.step (B := T51.setTop (mkF m 46 #[.val (.int i0), .val (.long i1), .second, .val (.long i2), .second, .val (.int i3), .val (.int i4), .val (.ref b47), .val (.ref b50), .val (.int (1 : Int32)), .unset, .unset, .unset, .unset, .unset, .unset] [])) (fun _ k => XS.istore X51.here hx rfl (hb hby at_44) rfl (l' := #[.val (.int i0), .val (.long i1), .second, .val (.long i2), .second, .val (.int i3), .val (.int i4), .val (.ref b47), .val (.ref b50), .val (.int (1 : Int32)), .unset, .unset, .unset, .unset, .unset, .unset]) rfl k) ?_
    refine Goes.step (B := T51.setTop (mkF m 48 #[.val (.int i0), .val (.long i1), .second, .val (.long i2), .second, .val (.int i3), .val (.int i4), .val (.ref b47), .val (.ref b50), .val (.int (1 : Int32)), .unset, .unset, .unset, .unset, .unset, .unset] [(.ref b50)])) (fun _ k => XS.aload X51.here hx rfl (hb hby at_46) rfl rfl k) ?_
    obtain ⟨cq52, kq52, qa52, qb52, qc52⟩ := isOf hZ rfl Ex51
    obtain ⟨_, _, ⟨T52, L52, k52, n52⟩, -, X52, ⟨Lc52, hQ52, l52, y52, z52⟩, st52⟩ := X51.virtualBack hx (y := (⟨"com/example/gridclear/gridclear/cms/Ber$Header", "constructed", "()Z"⟩ : MethodName)) (z := (⟨"com/example/gridclear/gridclear/cms/Ber$Header", "constructed", "()Z"⟩ : MethodName)) hown (mvT hZ (hw _ (List.mem_of_getElem? (i := 23) rfl))) (mvT hZ (hw _ (List.mem_of_getElem? (i := 24) rfl))) (notFace_of_selects (args := #[]) (mvT hZ (hw _ (List.mem_of_getElem? (i := 26) rfl)))) (mvT hZ (hw _ (List.mem_of_getElem? (i := 26) rfl))) (mvT hZ (hw _ (List.mem_of_getElem? (i := 25) rfl))) (by decide) (backOf (W := 0) (rmc1 l Z a0 hw [] b50 i0 T51.heap n0 O_51 hbt Fc51_tag) hZ (hw _ (List.mem_of_getElem? (i := 27) rfl)) (hw _ (List.mem_of_getElem? (i := 3) rfl)) (by decide) (by decide)) qa52 qc52 (g := (mkF m 48 #[.val (.int i0), .val (.long i1), .second, .val (.long i2), .second, .val (.int i3), .val (.int i4), .val (.ref b47), .val (.ref b50), .val (.int (1 : Int32)), .unset, .unset, .unset, .unset, .unset, .unset] [(.ref b50)])) rfl (by rw [hml]; rfl) (Steps.refl _) (argsL := []) (rest := []) (lenOf pd_2 rfl) rfl (by show 2 * 0 + _ ≤ _; exact Nat.le_of_eq rfl) (hb hby at_48) (fun _ _ => ⟨rfl, rfl, (by decide : 2 + 0 ≤ _), (by decide : 6 + 0 ≤ _)⟩)
    dsimp only [Pt.U, Pt.locs, Pt.cells, Pt.slots] at X52 l52 y52 z52 st52 hQ52
    subst l52 y52 z52
    obtain ⟨rfl, Nq52, eh52⟩ := hQ52
    have N52 := Fr.app N51 Nq52
    refine Goes.via (B := T52.setTop (mkF m 51 #[.val (.int i0), .val (.long i1), .second, .val (.long i2), .second, .val (.int i3), .val (.int i4), .val (.ref b47), .val (.ref b50), .val (.int (1 : Int32)), .unset, .unset, .unset, .unset, .unset, .unset] [(.int (1 : Int32))])) st52 ?_
    refine Goes.step (B := T52.setTop (mkF m 53 #[.val (.int i0), .val (.long i1), .second, .val (.long i2), .second, .val (.int i3), .val (.int i4), .val (.ref b47), .val (.ref b50), .val (.int (1 : Int32)), .unset, .unset, .unset, .unset, .unset, .unset] [(.int (1 : Int32)), (.int (1 : Int32))])) (fun _ k => XS.iload X52.here hx rfl (hb hby at_51) rfl k) ?_
    refine Goes.step (B := T52.setTop (mkF m 58 #[.val (.int i0), .val (.long i1), .second, .val (.long i2), .second, .val (.int i3), .val (.int i4), .val (.ref b47), .val (.ref b50), .val (.int (1 : Int32)), .unset, .unset, .unset, .unset, .unset, .unset] [])) (fun _ k => XS.icmpYes X52.here hx rfl (pc0 := 53) (pc' := 58) rfl (hb hby at_53) rfl (teq (by decide)).1 (by decide) (by decide) k) ?_
    obtain ⟨T53, h53, X53, e53, E53, A53, D53, -, st53⟩ := newO X52 hx hZ hown (hw _ (List.mem_of_getElem? (i := 1) rfl)) (hw _ (List.mem_of_getElem? (i := 2) rfl)) (hw _ (List.mem_of_getElem? (i := 3) rfl)) eh52 (g := (mkF m 58 #[.val (.int i0), .val (.long i1), .second, .val (.long i2), .second, .val (.int i3), .val (.int i4), .val (.ref b47), .val (.ref b50), .val (.int (1 : Int32)), .unset, .unset, .unset, .unset, .unset, .unset] [])) rfl (hb hby at_58) (by decide) (by decide)
    obtain ⟨b53, g53⟩ : ∃ z, z = T51.heap.size := ⟨_, rfl⟩
    rw [← g53] at A53 D53 st53
    have f54 := ((V49.ext E50).keep Kp51 (ninS ne_b47_b50 nin0))
    have ne_b47_b53 : b47 ≠ b53 := Nat.ne_of_lt (Nat.lt_of_lt_of_le f54.lt (Nat.le_of_eq g53.symm))
    have ne_b50_b53 : b50 ≠ b53 := Nat.ne_of_lt (Nat.lt_of_lt_of_le Ex51.lt (Nat.le_of_eq g53.symm))
    have g_b53 : n0 ≤ b53 := Nat.le_trans (own_z O_51) (Nat.le_of_eq g53.symm)
    have O_53 := O_51.ext E53
    have F53_tag : Fld Z h53 b53 "com/example/gridclear/gridclear/cms/Ber$Header" "tag" "I" (.int (0 : Int32)) := D53 (Or.inr (hw _ (List.mem_of_getElem? (i := 16) rfl))) (ty := .int) (by decide)
    have F53_length : Fld Z h53 b53 "com/example/gridclear/gridclear/cms/Ber$Header" "length" "J" (.long (0 : Int64)) := D53 (Or.inr (hw _ (List.mem_of_getElem? (i := 18) rfl))) (ty := .long) (by decide)
    have F53_head : Fld Z h53 b53 "com/example/gridclear/gridclear/cms/Ber$Header" "head" "[B" .null := D53 (Or.inr (hw _ (List.mem_of_getElem? (i := 20) rfl))) (ty := (.array .byte)) (by decide)
    have F53_contentStart : Fld Z h53 b53 "com/example/gridclear/gridclear/cms/Ber$Header" "contentStart" "J" (.long (0 : Int64)) := D53 (Or.inr (hw _ (List.mem_of_getElem? (i := 22) rfl))) (ty := .long) (by decide)
    refine Goes.step (B := T53.setTop (mkF m 61 #[.val (.int i0), .val (.long i1), .second, .val (.long i2), .second, .val (.int i3), .val (.int i4), .val (.ref b47), .val (.ref b50), .val (.int (1 : Int32)), .unset, .unset, .unset, .unset, .unset, .unset] [(.ref b53)])) st53 ?_
    refine Goes.step (B := T53.setTop (mkF m 62 #[.val (.int i0), .val (.long i1), .second, .val (.long i2), .second, .val (.int i3), .val (.int i4), .val (.ref b47), .val (.ref b50), .val (.int (1 : Int32)), .unset, .unset, .unset, .unset, .unset, .unset] [(.ref b53), (.ref b53)])) (fun _ k => XS.dup X53.here hx rfl (hb hby at_61) rfl rfl k) ?_
    refine Goes.step (B := T53.setTop (mkF m 63 #[.val (.int i0), .val (.long i1), .second, .val (.long i2), .second, .val (.int i3), .val (.int i4), .val (.ref b47), .val (.ref b50), .val (.int (1 : Int32)), .unset, .unset, .unset, .unset, .unset, .unset] [(.int i0), (.ref b53), (.ref b53)])) (fun _ k => XS.iloadN X53.here hx rfl (hb hby at_62) rfl k) ?_
    refine Goes.step (B := T53.setTop (mkF m 65 #[.val (.int i0), .val (.long i1), .second, .val (.long i2), .second, .val (.int i3), .val (.int i4), .val (.ref b47), .val (.ref b50), .val (.int (1 : Int32)), .unset, .unset, .unset, .unset, .unset, .unset] [(.int (32 : Int32)), (.int i0), (.ref b53), (.ref b53)])) (fun _ k => XS.bipush X53.here hx rfl (hb hby at_63) k) ?_
    refine Goes.step (B := T53.setTop (mkF m 66 #[.val (.int i0), .val (.long i1), .second, .val (.long i2), .second, .val (.int i3), .val (.int i4), .val (.ref b47), .val (.ref b50), .val (.int (1 : Int32)), .unset, .unset, .unset, .unset, .unset, .unset] [(.int (i0 ^^^ (32 : Int32))), (.ref b53), (.ref b53)])) (fun _ k => XS.ixor X53.here hx rfl (hb hby at_65) rfl k) ?_
    refine Goes.step (B := T53.setTop (mkF m 67 #[.val (.int i0), .val (.long i1), .second, .val (.long i2), .second, .val (.int i3), .val (.int i4), .val (.ref b47), .val (.ref b50), .val (.int (1 : Int32)), .unset, .unset, .unset, .unset, .unset, .unset] [(.long i1), (.int (i0 ^^^ (32 : Int32))), (.ref b53), (.ref b53)])) (fun _ k => XS.lloadN X53.here hx rfl (hb hby at_66) rfl k) ?_
    refine Goes.step (B := T53.setTop (mkF m 69 #[.val (.int i0), .val (.long i1), .second, .val (.long i2), .second, .val (.int i3), .val (.int i4), .val (.ref b47), .val (.ref b50), .val (.int (1 : Int32)), .unset, .unset, .unset, .unset, .unset, .unset] [(.ref b47), (.long i1), (.int (i0 ^^^ (32 : Int32))), (.ref b53), (.ref b53)])) (fun _ k => XS.aload X53.here hx rfl (hb hby at_67) rfl rfl k) ?_
    refine Goes.step (B := T53.setTop (mkF m 70 #[.val (.int i0), .val (.long i1), .second, .val (.long i2), .second, .val (.int i3), .val (.int i4), .val (.ref b47), .val (.ref b50), .val (.int (1 : Int32)), .unset, .unset, .unset, .unset, .unset, .unset] [(.long i2), (.ref b47), (.long i1), (.int (i0 ^^^ (32 : Int32))), (.ref b53), (.ref b53)])) (fun _ k => XS.lloadN X53.here hx rfl (hb hby at_69) rfl k) ?_
    obtain ⟨_, _, ⟨T55, L55, k55, n55⟩, -, X55, ⟨Lc55, hQ55, l55, y55, z55⟩, st55⟩ := X53.specialBack hx (y := (⟨"com/example/gridclear/gridclear/cms/Ber$Header", "<init>", "(IJ[BJ)V"⟩ : MethodName)) rfl hown (mvT hZ (hw _ (List.mem_of_getElem? (i := 4) rfl))) (mvT hZ (hw _ (List.mem_of_getElem? (i := 5) rfl))) (mvT hZ (hw _ (List.mem_of_getElem? (i := 6) rfl))) (by decide) (backOf (W := 1) (rm1 l Z a0 hw [] b53 (i0 ^^^ (32 : Int32)) i1 b47 i2 h53 n0 O_53 A53 g_b53 F53_tag F53_length F53_head F53_contentStart) hZ (hw _ (List.mem_of_getElem? (i := 6) rfl)) (hw _ (List.mem_of_getElem? (i := 3) rfl)) (by decide) (by decide)) (g := (mkF m 70 #[.val (.int i0), .val (.long i1), .second, .val (.long i2), .second, .val (.int i3), .val (.int i4), .val (.ref b47), .val (.ref b50), .val (.int (1 : Int32)), .unset, .unset, .unset, .unset, .unset, .unset] [(.long i2), (.ref b47), (.long i1), (.int (i0 ^^^ (32 : Int32))), (.ref b53), (.ref b53)])) rfl (by rw [hml]; rfl) (Steps.refl _) (a := b53) (argsL := [(.int (i0 ^^^ (32 : Int32))), (.long i1), (.ref b47), (.long i2)]) (rest := [(.ref b53)]) (lenOf pd_1 rfl) rfl (by show 2 * 0 + _ ≤ _; exact Nat.le_of_eq rfl) (hb hby at_70) (fun _ _ => ⟨rfl, e53, (by decide : 3 + 0 ≤ _), (by decide : 10 + 0 ≤ _)⟩)
    dsimp only [Pt.U, Pt.locs, Pt.cells, Pt.slots] at X55 l55 y55 z55 st55 hQ55
    subst l55 y55 z55
    obtain ⟨rfl, Nq55, Kp55, Ex55, Fc55_tag, Fc55_length, Fc55_head, Fc55_contentStart⟩ := hQ55
    have O_55 := O_53.keep Kp55 (allS g_b53 all0)
    have N55 := Fr.app N52 Nq55
    refine Goes.via (B := T55.setTop (mkF m 73 #[.val (.int i0), .val (.long i1), .second, .val (.long i2), .second, .val (.int i3), .val (.int i4), .val (.ref b47), .val (.ref b50), .val (.int (1 : Int32)), .unset, .unset, .unset, .unset, .unset, .unset] [(.ref b53)])) st55 ?_
    refine Goes.step (B := T55.setTop (mkF m 75 #[.val (.int i0), .val (.long i1), .second, .val (.long i2), .second, .val (.int i3), .val (.int i4), .val (.ref b47), .val (.ref b50), .val (.int (1 : Int32)), .val (.ref b53), .unset, .unset, .unset, .unset, .unset] [])) (fun _ k => XS.astore X55.here hx rfl (hb hby at_73) rfl rfl (l' := #[.val (.int i0), .val (.long i1), .second, .val (.long i2), .second, .val (.int i3), .val (.int i4), .val (.ref b47), .val (.ref b50), .val (.int (1 : Int32)), .val (.ref b53), .unset, .unset, .unset, .unset, .unset]) rfl k) ?_
    refine Goes.step (B := T55.setTop (mkF m 77 #[.val (.int i0), .val (.long i1), .second, .val (.long i2), .second, .val (.int i3), .val (.int i4), .val (.ref b47), .val (.ref b50), .val (.int (1 : Int32)), .val (.ref b53), .unset, .unset, .unset, .unset, .unset] [(.ref b53)])) (fun _ k => XS.aload X55.here hx rfl (hb hby at_75) rfl rfl k) ?_
    obtain ⟨cq56, kq56, qa56, qb56, qc56⟩ := isOf hZ rfl Ex55
    obtain ⟨_, _, ⟨T56, L56, k56, n56⟩, -, X56, ⟨Lc56, hQ56, l56, y56, z56⟩, st56⟩ := X55.virtualBack hx (y := (⟨"com/example/gridclear/gridclear/cms/Ber$Header", "constructed", "()Z"⟩ : MethodName)) (z := (⟨"com/example/gridclear/gridclear/cms/Ber$Header", "constructed", "()Z"⟩ : MethodName)) hown (mvT hZ (hw _ (List.mem_of_getElem? (i := 23) rfl))) (mvT hZ (hw _ (List.mem_of_getElem? (i := 24) rfl))) (notFace_of_selects (args := #[]) (mvT hZ (hw _ (List.mem_of_getElem? (i := 26) rfl)))) (mvT hZ (hw _ (List.mem_of_getElem? (i := 26) rfl))) (mvT hZ (hw _ (List.mem_of_getElem? (i := 25) rfl))) (by decide) (backOf (W := 0) (rmc0 l Z a0 hw [] b53 (i0 ^^^ (32 : Int32)) T55.heap n0 O_55 hx1 Fc55_tag) hZ (hw _ (List.mem_of_getElem? (i := 27) rfl)) (hw _ (List.mem_of_getElem? (i := 3) rfl)) (by decide) (by decide)) qa56 qc56 (g := (mkF m 77 #[.val (.int i0), .val (.long i1), .second, .val (.long i2), .second, .val (.int i3), .val (.int i4), .val (.ref b47), .val (.ref b50), .val (.int (1 : Int32)), .val (.ref b53), .unset, .unset, .unset, .unset, .unset] [(.ref b53)])) rfl (by rw [hml]; rfl) (Steps.refl _) (argsL := []) (rest := []) (lenOf pd_2 rfl) rfl (by show 2 * 0 + _ ≤ _; exact Nat.le_of_eq rfl) (hb hby at_77) (fun _ _ => ⟨rfl, rfl, (by decide : 3 + 0 ≤ _), (by decide : 10 + 0 ≤ _)⟩)
    dsimp only [Pt.U, Pt.locs, Pt.cells, Pt.slots] at X56 l56 y56 z56 st56 hQ56
    subst l56 y56 z56
    obtain ⟨rfl, Nq56, eh56⟩ := hQ56
    have N56 := Fr.app N55 Nq56
    refine Goes.via (B := T56.setTop (mkF m 80 #[.val (.int i0), .val (.long i1), .second, .val (.long i2), .second, .val (.int i3), .val (.int i4), .val (.ref b47), .val (.ref b50), .val (.int (1 : Int32)), .val (.ref b53), .unset, .unset, .unset, .unset, .unset] [(.int (0 : Int32))])) st56 ?_
    refine Goes.step (B := T56.setTop (mkF m 82 #[.val (.int i0), .val (.long i1), .second, .val (.long i2), .second, .val (.int i3), .val (.int i4), .val (.ref b47), .val (.ref b50), .val (.int (1 : Int32)), .val (.ref b53), .unset, .unset, .unset, .unset, .unset] [(.ref b50), (.int (0 : Int32))])) (fun _ k => XS.aload X56.here hx rfl (hb hby at_80) rfl rfl k) ?_
    have f58 := ((Fc51_tag.ext E53).keep Kp55 (ninS ne_b50_b53 nin0))
    have f59 := ((Ex51.ext E53).keep Kp55)
    obtain ⟨cq57, kq57, qa57, qb57, qc57⟩ := isOf hZ eh56 f59
    obtain ⟨_, _, ⟨T57, L57, k57, n57⟩, -, X57, ⟨Lc57, hQ57, l57, y57, z57⟩, st57⟩ := X56.virtualBack hx (y := (⟨"com/example/gridclear/gridclear/cms/Ber$Header", "constructed", "()Z"⟩ : MethodName)) (z := (⟨"com/example/gridclear/gridclear/cms/Ber$Header", "constructed", "()Z"⟩ : MethodName)) hown (mvT hZ (hw _ (List.mem_of_getElem? (i := 23) rfl))) (mvT hZ (hw _ (List.mem_of_getElem? (i := 24) rfl))) (notFace_of_selects (args := #[]) (mvT hZ (hw _ (List.mem_of_getElem? (i := 26) rfl)))) (mvT hZ (hw _ (List.mem_of_getElem? (i := 26) rfl))) (mvT hZ (hw _ (List.mem_of_getElem? (i := 25) rfl))) (by decide) (backOf (W := 1) (rmc1 l Z a0 hw [] b50 i0 T55.heap n0 O_55 hbt f58) hZ (hw _ (List.mem_of_getElem? (i := 27) rfl)) (hw _ (List.mem_of_getElem? (i := 3) rfl)) (by decide) (by decide)) qa57 qc57 (g := (mkF m 82 #[.val (.int i0), .val (.long i1), .second, .val (.long i2), .second, .val (.int i3), .val (.int i4), .val (.ref b47), .val (.ref b50), .val (.int (1 : Int32)), .val (.ref b53), .unset, .unset, .unset, .unset, .unset] [(.ref b50), (.int (0 : Int32))])) rfl (by rw [hml]; rfl) (Steps.refl _) (argsL := []) (rest := [(.int (0 : Int32))]) (lenOf pd_2 rfl) rfl (by show 2 * 0 + _ ≤ _; exact Nat.le_of_eq rfl) (hb hby at_82) (fun _ _ => ⟨rfl, eh56, (by decide : 3 + 0 ≤ _), (by decide : 10 + 0 ≤ _)⟩)
    dsimp only [Pt.U, Pt.locs, Pt.cells, Pt.slots] at X57 l57 y57 z57 st57 hQ57
    subst l57 y57 z57
    obtain ⟨rfl, Nq57, eh57⟩ := hQ57
    have N57 := Fr.app N56 Nq57
    refine Goes.via (B := T57.setTop (mkF m 85 #[.val (.int i0), .val (.long i1), .second, .val (.long i2), .second, .val (.int i3), .val (.int i4), .val (.ref b47), .val (.ref b50), .val (.int (1 : Int32)), .val (.ref b53), .unset, .unset, .unset, .unset, .unset] [(.int (1 : Int32)), (.int (0 : Int32))])) st57 ?_
    refine Goes.step (B := T57.setTop (mkF m 90 #[.val (.int i0), .val (.long i1), .second, .val (.long i2), .second, .val (.int i3), .val (.int i4), .val (.ref b47), .val (.ref b50), .val (.int (1 : Int32)), .val (.ref b53), .unset, .unset, .unset, .unset, .unset] [])) (fun _ k => XS.icmpYes X57.here hx rfl (pc0 := 85) (pc' := 90) rfl (hb hby at_85) rfl (feq (by decide)).2 (by decide) (by decide) k) ?_
    refine Goes.step (B := T57.setTop (mkF m 92 #[.val (.int i0), .val (.long i1), .second, .val (.long i2), .second, .val (.int i3), .val (.int i4), .val (.ref b47), .val (.ref b50), .val (.int (1 : Int32)), .val (.ref b53), .unset, .unset, .unset, .unset, .unset] [(.int i4)])) (fun _ k => XS.iload X57.here hx rfl (hb hby at_90) rfl k) ?_
    refine Goes.step (B := T57.setTop (mkF m 94 #[.val (.int i0), .val (.long i1), .second, .val (.long i2), .second, .val (.int i3), .val (.int i4), .val (.ref b47), .val (.ref b50), .val (.int (1 : Int32)), .val (.ref b53), .unset, .unset, .unset, .unset, .unset] [(.int (31 : Int32)), (.int i4)])) (fun _ k => XS.bipush X57.here hx rfl (hb hby at_92) k) ?_
    refine Goes.step (B := T57.setTop (mkF m 95 #[.val (.int i0), .val (.long i1), .second, .val (.long i2), .second, .val (.int i3), .val (.int i4), .val (.ref b47), .val (.ref b50), .val (.int (1 : Int32)), .val (.ref b53), .unset, .unset, .unset, .unset, .unset] [(.int (i4 &&& (31 : Int32)))])) (fun _ k => XS.iand X57.here hx rfl (hb hby at_94) rfl k) ?_
    refine Goes.step (B := T57.setTop (mkF m 97 #[.val (.int i0), .val (.long i1), .second, .val (.long i2), .second, .val (.int i3), .val (.int i4), .val (.ref b47), .val (.ref b50), .val (.int (1 : Int32)), .val (.ref b53), .val (.int (i4 &&& (31 : Int32))), .unset, .unset, .unset, .unset] [])) (fun _ k => XS.istore X57.here hx rfl (hb hby at_95) rfl (l' := #[.val (.int i0), .val (.long i1), .second, .val (.long i2), .second, .val (.int i3), .val (.int i4), .val (.ref b47), .val (.ref b50), .val (.int (1 : Int32)), .val (.ref b53), .val (.int (i4 &&& (31 : Int32))), .unset, .unset, .unset, .unset]) rfl k) ?_
    obtain ⟨T60, h60, X60, e60, E60, A60, D60, -, st60⟩ := newO X57 hx hZ hown (hw _ (List.mem_of_getElem? (i := 1) rfl)) (hw _ (List.mem_of_getElem? (i := 2) rfl)) (hw _ (List.mem_of_getElem? (i := 3) rfl)) eh57 (g := (mkF m 97 #[.val (.int i0), .val (.long i1), .second, .val (.long i2), .second, .val (.int i3), .val (.int i4), .val (.ref b47), .val (.ref b50), .val (.int (1 : Int32)), .val (.ref b53), .val (.int (i4 &&& (31 : Int32))), .unset, .unset, .unset, .unset] [])) rfl (hb hby at_97) (by decide) (by decide)
    obtain ⟨b60, g60⟩ : ∃ z, z = T55.heap.size := ⟨_, rfl⟩
    rw [← g60] at A60 D60 st60
    have f61 := ((f54.ext E53).keep Kp55 (ninS ne_b47_b53 nin0))
    have ne_b47_b60 : b47 ≠ b60 := Nat.ne_of_lt (Nat.lt_of_lt_of_le f61.lt (Nat.le_of_eq g60.symm))
    have ne_b50_b60 : b50 ≠ b60 := Nat.ne_of_lt (Nat.lt_of_lt_of_le f59.lt (Nat.le_of_eq g60.symm))
    have ne_b53_b60 : b53 ≠ b60 := Nat.ne_of_lt (Nat.lt_of_lt_of_le Ex55.lt (Nat.le_of_eq g60.symm))
    have g_b60 : n0 ≤ b60 := Nat.le_trans (own_z O_55) (Nat.le_of_eq g60.symm)
    have O_60 := O_55.ext E60
    have F60_tag : Fld Z h60 b60 "com/example/gridclear/gridclear/cms/Ber$Header" "tag" "I" (.int (0 : Int32)) := D60 (Or.inr (hw _ (List.mem_of_getElem? (i := 16) rfl))) (ty := .int) (by decide)
    have F60_length : Fld Z h60 b60 "com/example/gridclear/gridclear/cms/Ber$Header" "length" "J" (.long (0 : Int64)) := D60 (Or.inr (hw _ (List.mem_of_getElem? (i := 18) rfl))) (ty := .long) (by decide)
    have F60_head : Fld Z h60 b60 "com/example/gridclear/gridclear/cms/Ber$Header" "head" "[B" .null := D60 (Or.inr (hw _ (List.mem_of_getElem? (i := 20) rfl))) (ty := (.array .byte)) (by decide)
    have F60_contentStart : Fld Z h60 b60 "com/example/gridclear/gridclear/cms/Ber$Header" "contentStart" "J" (.long (0 : Int64)) := D60 (Or.inr (hw _ (List.mem_of_getElem? (i := 22) rfl))) (ty := .long) (by decide)
    refine Goes.step (B := T60.setTop (mkF m 100 #[.val (.int i0), .val (.long i1), .second, .val (.long i2), .second, .val (.int i3), .val (.int i4), .val (.ref b47), .val (.ref b50), .val (.int (1 : Int32)), .val (.ref b53), .val (.int (i4 &&& (31 : Int32))), .unset, .unset, .unset, .unset] [(.ref b60)])) st60 ?_
    refine Goes.step (B := T60.setTop (mkF m 101 #[.val (.int i0), .val (.long i1), .second, .val (.long i2), .second, .val (.int i3), .val (.int i4), .val (.ref b47), .val (.ref b50), .val (.int (1 : Int32)), .val (.ref b53), .val (.int (i4 &&& (31 : Int32))), .unset, .unset, .unset, .unset] [(.ref b60), (.ref b60)])) (fun _ k => XS.dup X60.here hx rfl (hb hby at_100) rfl rfl k) ?_
    refine Goes.step (B := T60.setTop (mkF m 103 #[.val (.int i0), .val (.long i1), .second, .val (.long i2), .second, .val (.int i3), .val (.int i4), .val (.ref b47), .val (.ref b50), .val (.int (1 : Int32)), .val (.ref b53), .val (.int (i4 &&& (31 : Int32))), .unset, .unset, .unset, .unset] [(.int (i4 &&& (31 : Int32))), (.ref b60), (.ref b60)])) (fun _ k => XS.iload X60.here hx rfl (hb hby at_101) rfl k) ?_
    obtain ⟨_, _, ⟨T62, L62, k62, n62⟩, -, X62, ⟨Lc62, hQ62, l62, y62, z62⟩, st62⟩ := Jvm.LawKit.callS X60 hx (y := (⟨"com/example/gridclear/gridclear/cms/Der", "context", "(I)I"⟩ : MethodName)) hown (mvT hZ (hw _ (List.mem_of_getElem? (i := 28) rfl))) (mvT hZ (hw _ (List.mem_of_getElem? (i := 29) rfl))) (mvT hZ (hw _ (List.mem_of_getElem? (i := 30) rfl))) (mvT hZ (hw _ (List.mem_of_getElem? (i := 31) rfl))) (by decide) (backOf (W := 2) (rm5 l Z a0 hw [] (i4 &&& (31 : Int32)) h60 n0 O_60 ) hZ (hw _ (List.mem_of_getElem? (i := 31) rfl)) (hw _ (List.mem_of_getElem? (i := 30) rfl)) (by decide) (by decide)) (g := (mkF m 103 #[.val (.int i0), .val (.long i1), .second, .val (.long i2), .second, .val (.int i3), .val (.int i4), .val (.ref b47), .val (.ref b50), .val (.int (1 : Int32)), .val (.ref b53), .val (.int (i4 &&& (31 : Int32))), .unset, .unset, .unset, .unset] [(.int (i4 &&& (31 : Int32))), (.ref b60), (.ref b60)])) rfl (by rw [hml]; rfl) (argsL := [(.int (i4 &&& (31 : Int32)))]) (rest := [(.ref b60), (.ref b60)]) (lenOf pd_3 rfl) rfl (by show 2 * 0 + _ ≤ _; exact Nat.le_of_eq rfl) (hb hby at_103) (fun _ _ => ⟨rfl, e60, (by decide : 4 + 0 ≤ _), (by decide : 14 + 0 ≤ _)⟩)
    dsimp only [Pt.U, Pt.locs, Pt.cells, Pt.slots] at X62 l62 y62 z62 st62 hQ62
    subst l62 y62 z62
    obtain ⟨rfl, Nq62, eh62⟩ := hQ62
    have N62 := Fr.app N57 Nq62
    refine Goes.step (B := T62.setTop (mkF m 106 #[.val (.int i0), .val (.long i1), .second, .val (.long i2), .second, .val (.int i3), .val (.int i4), .val (.ref b47), .val (.ref b50), .val (.int (1 : Int32)), .val (.ref b53), .val (.int (i4 &&& (31 : Int32))), .unset, .unset, .unset, .unset] [(.int ((160 : Int32) ||| (i4 &&& (31 : Int32)))), (.ref b60), (.ref b60)])) st62 ?_
    refine Goes.step (B := T62.setTop (mkF m 107 #[.val (.int i0), .val (.long i1), .second, .val (.long i2), .second, .val (.int i3), .val (.int i4), .val (.ref b47), .val (.ref b50), .val (.int (1 : Int32)), .val (.ref b53), .val (.int (i4 &&& (31 : Int32))), .unset, .unset, .unset, .unset] [(.long i1), (.int ((160 : Int32) ||| (i4 &&& (31 : Int32)))), (.ref b60), (.ref b60)])) (fun _ k => XS.lloadN X62.here hx rfl (hb hby at_106) rfl k) ?_
    refine Goes.step (B := T62.setTop (mkF m 109 #[.val (.int i0), .val (.long i1), .second, .val (.long i2), .second, .val (.int i3), .val (.int i4), .val (.ref b47), .val (.ref b50), .val (.int (1 : Int32)), .val (.ref b53), .val (.int (i4 &&& (31 : Int32))), .unset, .unset, .unset, .unset] [(.ref b47), (.long i1), (.int ((160 : Int32) ||| (i4 &&& (31 : Int32)))), (.ref b60), (.ref b60)])) (fun _ k => XS.aload X62.here hx rfl (hb hby at_107) rfl rfl k) ?_
    refine Goes.step (B := T62.setTop (mkF m 110 #[.val (.int i0), .val (.long i1), .second, .val (.long i2), .second, .val (.int i3), .val (.int i4), .val (.ref b47), .val (.ref b50), .val (.int (1 : Int32)), .val (.ref b53), .val (.int (i4 &&& (31 : Int32))), .unset, .unset, .unset, .unset] [(.long i2), (.ref b47), (.long i1), (.int ((160 : Int32) ||| (i4 &&& (31 : Int32)))), (.ref b60), (.ref b60)])) (fun _ k => XS.lloadN X62.here hx rfl (hb hby at_109) rfl k) ?_
    obtain ⟨_, _, ⟨T63, L63, k63, n63⟩, -, X63, ⟨Lc63, hQ63, l63, y63, z63⟩, st63⟩ := X62.specialBack hx (y := (⟨"com/example/gridclear/gridclear/cms/Ber$Header", "<init>", "(IJ[BJ)V"⟩ : MethodName)) rfl hown (mvT hZ (hw _ (List.mem_of_getElem? (i := 4) rfl))) (mvT hZ (hw _ (List.mem_of_getElem? (i := 5) rfl))) (mvT hZ (hw _ (List.mem_of_getElem? (i := 6) rfl))) (by decide) (backOf (W := 1) (rm1 l Z a0 hw [] b60 ((160 : Int32) ||| (i4 &&& (31 : Int32))) i1 b47 i2 h60 n0 O_60 A60 g_b60 F60_tag F60_length F60_head F60_contentStart) hZ (hw _ (List.mem_of_getElem? (i := 6) rfl)) (hw _ (List.mem_of_getElem? (i := 3) rfl)) (by decide) (by decide)) (g := (mkF m 110 #[.val (.int i0), .val (.long i1), .second, .val (.long i2), .second, .val (.int i3), .val (.int i4), .val (.ref b47), .val (.ref b50), .val (.int (1 : Int32)), .val (.ref b53), .val (.int (i4 &&& (31 : Int32))), .unset, .unset, .unset, .unset] [(.long i2), (.ref b47), (.long i1), (.int ((160 : Int32) ||| (i4 &&& (31 : Int32)))), (.ref b60), (.ref b60)])) rfl (by rw [hml]; rfl) (Steps.refl _) (a := b60) (argsL := [(.int ((160 : Int32) ||| (i4 &&& (31 : Int32)))), (.long i1), (.ref b47), (.long i2)]) (rest := [(.ref b60)]) (lenOf pd_1 rfl) rfl (by show 2 * 0 + _ ≤ _; exact Nat.le_of_eq rfl) (hb hby at_110) (fun _ _ => ⟨rfl, eh62, (by decide : 4 + 0 ≤ _), (by decide : 14 + 0 ≤ _)⟩)
    dsimp only [Pt.U, Pt.locs, Pt.cells, Pt.slots] at X63 l63 y63 z63 st63 hQ63
    subst l63 y63 z63
    obtain ⟨rfl, Nq63, Kp63, Ex63, Fc63_tag, Fc63_length, Fc63_head, Fc63_contentStart⟩ := hQ63
    have O_63 := O_60.keep Kp63 (allS g_b60 all0)
    have N63 := Fr.app N62 Nq63
    refine Goes.via (B := T63.setTop (mkF m 113 #[.val (.int i0), .val (.long i1), .second, .val (.long i2), .second, .val (.int i3), .val (.int i4), .val (.ref b47), .val (.ref b50), .val (.int (1 : Int32)), .val (.ref b53), .val (.int (i4 &&& (31 : Int32))), .unset, .unset, .unset, .unset] [(.ref b60)])) st63 ?_
    refine Goes.step (B := T63.setTop (mkF m 115 #[.val (.int i0), .val (.long i1), .second, .val (.long i2), .second, .val (.int i3), .val (.int i4), .val (.ref b47), .val (.ref b50), .val (.int (1 : Int32)), .val (.ref b53), .val (.int (i4 &&& (31 : Int32))), .val (.ref b60), .unset, .unset, .unset] [])) (fun _ k => XS.astore X63.here hx rfl (hb hby at_113) rfl rfl (l' := #[.val (.int i0), .val (.long i1), .second, .val (.long i2), .second, .val (.int i3), .val (.int i4), .val (.ref b47), .val (.ref b50), .val (.int (1 : Int32)), .val (.ref b53), .val (.int (i4 &&& (31 : Int32))), .val (.ref b60), .unset, .unset, .unset]) rfl k) ?_
    obtain ⟨T64, h64, X64, e64, E64, A64, D64, -, st64⟩ := newO X63 hx hZ hown (hw _ (List.mem_of_getElem? (i := 1) rfl)) (hw _ (List.mem_of_getElem? (i := 2) rfl)) (hw _ (List.mem_of_getElem? (i := 3) rfl)) rfl (g := (mkF m 115 #[.val (.int i0), .val (.long i1), .second, .val (.long i2), .second, .val (.int i3), .val (.int i4), .val (.ref b47), .val (.ref b50), .val (.int (1 : Int32)), .val (.ref b53), .val (.int (i4 &&& (31 : Int32))), .val (.ref b60), .unset, .unset, .unset] [])) rfl (hb hby at_115) (by decide) (by decide)
    obtain ⟨b64, g64⟩ : ∃ z, z = T63.heap.size := ⟨_, rfl⟩
    rw [← g64] at A64 D64 st64
    have f65 := ((f61.ext E60).keep Kp63 (ninS ne_b47_b60 nin0))
    have ne_b47_b64 : b47 ≠ b64 := Nat.ne_of_lt (Nat.lt_of_lt_of_le f65.lt (Nat.le_of_eq g64.symm))
    have f66 := ((f59.ext E60).keep Kp63)
    have ne_b50_b64 : b50 ≠ b64 := Nat.ne_of_lt (Nat.lt_of_lt_of_le f66.lt (Nat.le_of_eq g64.symm))
    have f67 := ((Ex55.ext E60).keep Kp63)
    have ne_b53_b64 : b53 ≠ b64 := Nat.ne_of_lt (Nat.lt_of_lt_of_le f67.lt (Nat.le_of_eq g64.symm))
    have ne_b60_b64 : b60 ≠ b64 := Nat.ne_of_lt (Nat.lt_of_lt_of_le Ex63.lt (Nat.le_of_eq g64.symm))
    have g_b64 : n0 ≤ b64 := Nat.le_trans (own_z O_63) (Nat.le_of_eq g64.symm)
    have O_64 := O_63.ext E64
    have F64_tag : Fld Z h64 b64 "com/example/gridclear/gridclear/cms/Ber$Header" "tag" "I" (.int (0 : Int32)) := D64 (Or.inr (hw _ (List.mem_of_getElem? (i := 16) rfl))) (ty := .int) (by decide)
    have F64_length : Fld Z h64 b64 "com/example/gridclear/gridclear/cms/Ber$Header" "length" "J" (.long (0 : Int64)) := D64 (Or.inr (hw _ (List.mem_of_getElem? (i := 18) rfl))) (ty := .long) (by decide)
    have F64_head : Fld Z h64 b64 "com/example/gridclear/gridclear/cms/Ber$Header" "head" "[B" .null := D64 (Or.inr (hw _ (List.mem_of_getElem? (i := 20) rfl))) (ty := (.array .byte)) (by decide)
    have F64_contentStart : Fld Z h64 b64 "com/example/gridclear/gridclear/cms/Ber$Header" "contentStart" "J" (.long (0 : Int64)) := D64 (Or.inr (hw _ (List.mem_of_getElem? (i := 22) rfl))) (ty := .long) (by decide)
    refine Goes.step (B := T64.setTop (mkF m 118 #[.val (.int i0), .val (.long i1), .second, .val (.long i2), .second, .val (.int i3), .val (.int i4), .val (.ref b47), .val (.ref b50), .val (.int (1 : Int32)), .val (.ref b53), .val (.int (i4 &&& (31 : Int32))), .val (.ref b60), .unset, .unset, .unset] [(.ref b64)])) st64 ?_
    refine Goes.step (B := T64.setTop (mkF m 119 #[.val (.int i0), .val (.long i1), .second, .val (.long i2), .second, .val (.int i3), .val (.int i4), .val (.ref b47), .val (.ref b50), .val (.int (1 : Int32)), .val (.ref b53), .val (.int (i4 &&& (31 : Int32))), .val (.ref b60), .unset, .unset, .unset] [(.ref b64), (.ref b64)])) (fun _ k => XS.dup X64.here hx rfl (hb hby at_118) rfl rfl k) ?_
    refine Goes.step (B := T64.setTop (mkF m 121 #[.val (.int i0), .val (.long i1), .second, .val (.long i2), .second, .val (.int i3), .val (.int i4), .val (.ref b47), .val (.ref b50), .val (.int (1 : Int32)), .val (.ref b53), .val (.int (i4 &&& (31 : Int32))), .val (.ref b60), .unset, .unset, .unset] [(.int (i4 &&& (31 : Int32))), (.ref b64), (.ref b64)])) (fun _ k => XS.iload X64.here hx rfl (hb hby at_119) rfl k) ?_
    obtain ⟨_, _, ⟨T68, L68, k68, n68⟩, -, X68, ⟨Lc68, hQ68, l68, y68, z68⟩, st68⟩ := Jvm.LawKit.callS X64 hx (y := (⟨"com/example/gridclear/gridclear/cms/Der", "contextPrimitive", "(I)I"⟩ : MethodName)) hown (mvT hZ (hw _ (List.mem_of_getElem? (i := 32) rfl))) (mvT hZ (hw _ (List.mem_of_getElem? (i := 33) rfl))) (mvT hZ (hw _ (List.mem_of_getElem? (i := 30) rfl))) (mvT hZ (hw _ (List.mem_of_getElem? (i := 34) rfl))) (by decide) (backOf (W := 2) (rm6 l Z a0 hw [] (i4 &&& (31 : Int32)) h64 n0 O_64 ) hZ (hw _ (List.mem_of_getElem? (i := 34) rfl)) (hw _ (List.mem_of_getElem? (i := 30) rfl)) (by decide) (by decide)) (g := (mkF m 121 #[.val (.int i0), .val (.long i1), .second, .val (.long i2), .second, .val (.int i3), .val (.int i4), .val (.ref b47), .val (.ref b50), .val (.int (1 : Int32)), .val (.ref b53), .val (.int (i4 &&& (31 : Int32))), .val (.ref b60), .unset, .unset, .unset] [(.int (i4 &&& (31 : Int32))), (.ref b64), (.ref b64)])) rfl (by rw [hml]; rfl) (argsL := [(.int (i4 &&& (31 : Int32)))]) (rest := [(.ref b64), (.ref b64)]) (lenOf pd_3 rfl) rfl (by show 2 * 0 + _ ≤ _; exact Nat.le_of_eq rfl) (hb hby at_121) (fun _ _ => ⟨rfl, e64, (by decide : 5 + 0 ≤ _), (by decide : 18 + 0 ≤ _)⟩)
    dsimp only [Pt.U, Pt.locs, Pt.cells, Pt.slots] at X68 l68 y68 z68 st68 hQ68
    subst l68 y68 z68
    obtain ⟨rfl, Nq68, eh68⟩ := hQ68
    have N68 := Fr.app N63 Nq68
    refine Goes.step (B := T68.setTop (mkF m 124 #[.val (.int i0), .val (.long i1), .second, .val (.long i2), .second, .val (.int i3), .val (.int i4), .val (.ref b47), .val (.ref b50), .val (.int (1 : Int32)), .val (.ref b53), .val (.int (i4 &&& (31 : Int32))), .val (.ref b60), .unset, .unset, .unset] [(.int ((128 : Int32) ||| (i4 &&& (31 : Int32)))), (.ref b64), (.ref b64)])) st68 ?_
    refine Goes.step (B := T68.setTop (mkF m 125 #[.val (.int i0), .val (.long i1), .second, .val (.long i2), .second, .val (.int i3), .val (.int i4), .val (.ref b47), .val (.ref b50), .val (.int (1 : Int32)), .val (.ref b53), .val (.int (i4 &&& (31 : Int32))), .val (.ref b60), .unset, .unset, .unset] [(.long i1), (.int ((128 : Int32) ||| (i4 &&& (31 : Int32)))), (.ref b64), (.ref b64)])) (fun _ k => XS.lloadN X68.here hx rfl (hb hby at_124) rfl k) ?_
    refine Goes.step (B := T68.setTop (mkF m 127 #[.val (.int i0), .val (.long i1), .second, .val (.long i2), .second, .val (.int i3), .val (.int i4), .val (.ref b47), .val (.ref b50), .val (.int (1 : Int32)), .val (.ref b53), .val (.int (i4 &&& (31 : Int32))), .val (.ref b60), .unset, .unset, .unset] [(.ref b47), (.long i1), (.int ((128 : Int32) ||| (i4 &&& (31 : Int32)))), (.ref b64), (.ref b64)])) (fun _ k => XS.aload X68.here hx rfl (hb hby at_125) rfl rfl k) ?_
    refine Goes.step (B := T68.setTop (mkF m 128 #[.val (.int i0), .val (.long i1), .second, .val (.long i2), .second, .val (.int i3), .val (.int i4), .val (.ref b47), .val (.ref b50), .val (.int (1 : Int32)), .val (.ref b53), .val (.int (i4 &&& (31 : Int32))), .val (.ref b60), .unset, .unset, .unset] [(.long i2), (.ref b47), (.long i1), (.int ((128 : Int32) ||| (i4 &&& (31 : Int32)))), (.ref b64), (.ref b64)])) (fun _ k => XS.lloadN X68.here hx rfl (hb hby at_127) rfl k) ?_
    obtain ⟨_, _, ⟨T69, L69, k69, n69⟩, -, X69, ⟨Lc69, hQ69, l69, y69, z69⟩, st69⟩ := X68.specialBack hx (y := (⟨"com/example/gridclear/gridclear/cms/Ber$Header", "<init>", "(IJ[BJ)V"⟩ : MethodName)) rfl hown (mvT hZ (hw _ (List.mem_of_getElem? (i := 4) rfl))) (mvT hZ (hw _ (List.mem_of_getElem? (i := 5) rfl))) (mvT hZ (hw _ (List.mem_of_getElem? (i := 6) rfl))) (by decide) (backOf (W := 1) (rm1 l Z a0 hw [] b64 ((128 : Int32) ||| (i4 &&& (31 : Int32))) i1 b47 i2 h64 n0 O_64 A64 g_b64 F64_tag F64_length F64_head F64_contentStart) hZ (hw _ (List.mem_of_getElem? (i := 6) rfl)) (hw _ (List.mem_of_getElem? (i := 3) rfl)) (by decide) (by decide)) (g := (mkF m 128 #[.val (.int i0), .val (.long i1), .second, .val (.long i2), .second, .val (.int i3), .val (.int i4), .val (.ref b47), .val (.ref b50), .val (.int (1 : Int32)), .val (.ref b53), .val (.int (i4 &&& (31 : Int32))), .val (.ref b60), .unset, .unset, .unset] [(.long i2), (.ref b47), (.long i1), (.int ((128 : Int32) ||| (i4 &&& (31 : Int32)))), (.ref b64), (.ref b64)])) rfl (by rw [hml]; rfl) (Steps.refl _) (a := b64) (argsL := [(.int ((128 : Int32) ||| (i4 &&& (31 : Int32)))), (.long i1), (.ref b47), (.long i2)]) (rest := [(.ref b64)]) (lenOf pd_1 rfl) rfl (by show 2 * 0 + _ ≤ _; exact Nat.le_of_eq rfl) (hb hby at_128) (fun _ _ => ⟨rfl, eh68, (by decide : 5 + 0 ≤ _), (by decide : 18 + 0 ≤ _)⟩)
    dsimp only [Pt.U, Pt.locs, Pt.cells, Pt.slots] at X69 l69 y69 z69 st69 hQ69
    subst l69 y69 z69
    obtain ⟨rfl, Nq69, Kp69, Ex69, Fc69_tag, Fc69_length, Fc69_head, Fc69_contentStart⟩ := hQ69
    have O_69 := O_64.keep Kp69 (allS g_b64 all0)
    have N69 := Fr.app N68 Nq69
    refine Goes.via (B := T69.setTop (mkF m 131 #[.val (.int i0), .val (.long i1), .second, .val (.long i2), .second, .val (.int i3), .val (.int i4), .val (.ref b47), .val (.ref b50), .val (.int (1 : Int32)), .val (.ref b53), .val (.int (i4 &&& (31 : Int32))), .val (.ref b60), .unset, .unset, .unset] [(.ref b64)])) st69 ?_
    refine Goes.step (B := T69.setTop (mkF m 133 #[.val (.int i0), .val (.long i1), .second, .val (.long i2), .second, .val (.int i3), .val (.int i4), .val (.ref b47), .val (.ref b50), .val (.int (1 : Int32)), .val (.ref b53), .val (.int (i4 &&& (31 : Int32))), .val (.ref b60), .val (.ref b64), .unset, .unset] [])) (fun _ k => XS.astore X69.here hx rfl (hb hby at_131) rfl rfl (l' := #[.val (.int i0), .val (.long i1), .second, .val (.long i2), .second, .val (.int i3), .val (.int i4), .val (.ref b47), .val (.ref b50), .val (.int (1 : Int32)), .val (.ref b53), .val (.int (i4 &&& (31 : Int32))), .val (.ref b60), .val (.ref b64), .unset, .unset]) rfl k) ?_
    obtain ⟨T70, h70, X70, e70, E70, A70, D70, -, st70⟩ := newO X69 hx hZ hown (hw _ (List.mem_of_getElem? (i := 1) rfl)) (hw _ (List.mem_of_getElem? (i := 2) rfl)) (hw _ (List.mem_of_getElem? (i := 3) rfl)) rfl (g := (mkF m 133 #[.val (.int i0), .val (.long i1), .second, .val (.long i2), .second, .val (.int i3), .val (.int i4), .val (.ref b47), .val (.ref b50), .val (.int (1 : Int32)), .val (.ref b53), .val (.int (i4 &&& (31 : Int32))), .val (.ref b60), .val (.ref b64), .unset, .unset] [])) rfl (hb hby at_133) (by decide) (by decide)
    obtain ⟨b70, g70⟩ : ∃ z, z = T69.heap.size := ⟨_, rfl⟩
    rw [← g70] at A70 D70 st70
    have f71 := ((f65.ext E64).keep Kp69 (ninS ne_b47_b64 nin0))
    have ne_b47_b70 : b47 ≠ b70 := Nat.ne_of_lt (Nat.lt_of_lt_of_le f71.lt (Nat.le_of_eq g70.symm))
    have f72 := ((f66.ext E64).keep Kp69)
    have ne_b50_b70 : b50 ≠ b70 := Nat.ne_of_lt (Nat.lt_of_lt_of_le f72.lt (Nat.le_of_eq g70.symm))
    have f73 := ((f67.ext E64).keep Kp69)
    have ne_b53_b70 : b53 ≠ b70 := Nat.ne_of_lt (Nat.lt_of_lt_of_le f73.lt (Nat.le_of_eq g70.symm))
    have f74 := ((Ex63.ext E64).keep Kp69)
    have ne_b60_b70 : b60 ≠ b70 := Nat.ne_of_lt (Nat.lt_of_lt_of_le f74.lt (Nat.le_of_eq g70.symm))
    have ne_b64_b70 : b64 ≠ b70 := Nat.ne_of_lt (Nat.lt_of_lt_of_le Ex69.lt (Nat.le_of_eq g70.symm))
    have g_b70 : n0 ≤ b70 := Nat.le_trans (own_z O_69) (Nat.le_of_eq g70.symm)
    have O_70 := O_69.ext E70
    have F70_tag : Fld Z h70 b70 "com/example/gridclear/gridclear/cms/Ber$Header" "tag" "I" (.int (0 : Int32)) := D70 (Or.inr (hw _ (List.mem_of_getElem? (i := 16) rfl))) (ty := .int) (by decide)
    have F70_length : Fld Z h70 b70 "com/example/gridclear/gridclear/cms/Ber$Header" "length" "J" (.long (0 : Int64)) := D70 (Or.inr (hw _ (List.mem_of_getElem? (i := 18) rfl))) (ty := .long) (by decide)
    have F70_head : Fld Z h70 b70 "com/example/gridclear/gridclear/cms/Ber$Header" "head" "[B" .null := D70 (Or.inr (hw _ (List.mem_of_getElem? (i := 20) rfl))) (ty := (.array .byte)) (by decide)
    have F70_contentStart : Fld Z h70 b70 "com/example/gridclear/gridclear/cms/Ber$Header" "contentStart" "J" (.long (0 : Int64)) := D70 (Or.inr (hw _ (List.mem_of_getElem? (i := 22) rfl))) (ty := .long) (by decide)
    refine Goes.step (B := T70.setTop (mkF m 136 #[.val (.int i0), .val (.long i1), .second, .val (.long i2), .second, .val (.int i3), .val (.int i4), .val (.ref b47), .val (.ref b50), .val (.int (1 : Int32)), .val (.ref b53), .val (.int (i4 &&& (31 : Int32))), .val (.ref b60), .val (.ref b64), .unset, .unset] [(.ref b70)])) st70 ?_
    refine Goes.step (B := T70.setTop (mkF m 137 #[.val (.int i0), .val (.long i1), .second, .val (.long i2), .second, .val (.int i3), .val (.int i4), .val (.ref b47), .val (.ref b50), .val (.int (1 : Int32)), .val (.ref b53), .val (.int (i4 &&& (31 : Int32))), .val (.ref b60), .val (.ref b64), .unset, .unset] [(.ref b70), (.ref b70)])) (fun _ k => XS.dup X70.here hx rfl (hb hby at_136) rfl rfl k) ?_
    refine Goes.step (B := T70.setTop (mkF m 139 #[.val (.int i0), .val (.long i1), .second, .val (.long i2), .second, .val (.int i3), .val (.int i4), .val (.ref b47), .val (.ref b50), .val (.int (1 : Int32)), .val (.ref b53), .val (.int (i4 &&& (31 : Int32))), .val (.ref b60), .val (.ref b64), .unset, .unset] [(.int (48 : Int32)), (.ref b70), (.ref b70)])) (fun _ k => XS.bipush X70.here hx rfl (hb hby at_137) k) ?_
    refine Goes.step (B := T70.setTop (mkF m 140 #[.val (.int i0), .val (.long i1), .second, .val (.long i2), .second, .val (.int i3), .val (.int i4), .val (.ref b47), .val (.ref b50), .val (.int (1 : Int32)), .val (.ref b53), .val (.int (i4 &&& (31 : Int32))), .val (.ref b60), .val (.ref b64), .unset, .unset] [(.long i1), (.int (48 : Int32)), (.ref b70), (.ref b70)])) (fun _ k => XS.lloadN X70.here hx rfl (hb hby at_139) rfl k) ?_
    refine Goes.step (B := T70.setTop (mkF m 142 #[.val (.int i0), .val (.long i1), .second, .val (.long i2), .second, .val (.int i3), .val (.int i4), .val (.ref b47), .val (.ref b50), .val (.int (1 : Int32)), .val (.ref b53), .val (.int (i4 &&& (31 : Int32))), .val (.ref b60), .val (.ref b64), .unset, .unset] [(.ref b47), (.long i1), (.int (48 : Int32)), (.ref b70), (.ref b70)])) (fun _ k => XS.aload X70.here hx rfl (hb hby at_140) rfl rfl k) ?_
    refine Goes.step (B := T70.setTop (mkF m 143 #[.val (.int i0), .val (.long i1), .second, .val (.long i2), .second, .val (.int i3), .val (.int i4), .val (.ref b47), .val (.ref b50), .val (.int (1 : Int32)), .val (.ref b53), .val (.int (i4 &&& (31 : Int32))), .val (.ref b60), .val (.ref b64), .unset, .unset] [(.long i2), (.ref b47), (.long i1), (.int (48 : Int32)), (.ref b70), (.ref b70)])) (fun _ k => XS.lloadN X70.here hx rfl (hb hby at_142) rfl k) ?_
    obtain ⟨_, _, ⟨T75, L75, k75, n75⟩, -, X75, ⟨Lc75, hQ75, l75, y75, z75⟩, st75⟩ := X70.specialBack hx (y := (⟨"com/example/gridclear/gridclear/cms/Ber$Header", "<init>", "(IJ[BJ)V"⟩ : MethodName)) rfl hown (mvT hZ (hw _ (List.mem_of_getElem? (i := 4) rfl))) (mvT hZ (hw _ (List.mem_of_getElem? (i := 5) rfl))) (mvT hZ (hw _ (List.mem_of_getElem? (i := 6) rfl))) (by decide) (backOf (W := 1) (rm1 l Z a0 hw [] b70 (48 : Int32) i1 b47 i2 h70 n0 O_70 A70 g_b70 F70_tag F70_length F70_head F70_contentStart) hZ (hw _ (List.mem_of_getElem? (i := 6) rfl)) (hw _ (List.mem_of_getElem? (i := 3) rfl)) (by decide) (by decide)) (g := (mkF m 143 #[.val (.int i0), .val (.long i1), .second, .val (.long i2), .second, .val (.int i3), .val (.int i4), .val (.ref b47), .val (.ref b50), .val (.int (1 : Int32)), .val (.ref b53), .val (.int (i4 &&& (31 : Int32))), .val (.ref b60), .val (.ref b64), .unset, .unset] [(.long i2), (.ref b47), (.long i1), (.int (48 : Int32)), (.ref b70), (.ref b70)])) rfl (by rw [hml]; rfl) (Steps.refl _) (a := b70) (argsL := [(.int (48 : Int32)), (.long i1), (.ref b47), (.long i2)]) (rest := [(.ref b70)]) (lenOf pd_1 rfl) rfl (by show 2 * 0 + _ ≤ _; exact Nat.le_of_eq rfl) (hb hby at_143) (fun _ _ => ⟨rfl, e70, (by decide : 6 + 0 ≤ _), (by decide : 22 + 0 ≤ _)⟩)
    dsimp only [Pt.U, Pt.locs, Pt.cells, Pt.slots] at X75 l75 y75 z75 st75 hQ75
    subst l75 y75 z75
    obtain ⟨rfl, Nq75, Kp75, Ex75, Fc75_tag, Fc75_length, Fc75_head, Fc75_contentStart⟩ := hQ75
    have O_75 := O_70.keep Kp75 (allS g_b70 all0)
    have N75 := Fr.app N69 Nq75
    refine Goes.via (B := T75.setTop (mkF m 146 #[.val (.int i0), .val (.long i1), .second, .val (.long i2), .second, .val (.int i3), .val (.int i4), .val (.ref b47), .val (.ref b50), .val (.int (1 : Int32)), .val (.ref b53), .val (.int (i4 &&& (31 : Int32))), .val (.ref b60), .val (.ref b64), .unset, .unset] [(.ref b70)])) st75 ?_
    refine Goes.step (B := T75.setTop (mkF m 148 #[.val (.int i0), .val (.long i1), .second, .val (.long i2), .second, .val (.int i3), .val (.int i4), .val (.ref b47), .val (.ref b50), .val (.int (1 : Int32)), .val (.ref b53), .val (.int (i4 &&& (31 : Int32))), .val (.ref b60), .val (.ref b64), .val (.ref b70), .unset] [])) (fun _ k => XS.astore X75.here hx rfl (hb hby at_146) rfl rfl (l' := #[.val (.int i0), .val (.long i1), .second, .val (.long i2), .second, .val (.int i3), .val (.int i4), .val (.ref b47), .val (.ref b50), .val (.int (1 : Int32)), .val (.ref b53), .val (.int (i4 &&& (31 : Int32))), .val (.ref b60), .val (.ref b64), .val (.ref b70), .unset]) rfl k) ?_
    obtain ⟨T76, h76, X76, e76, E76, A76, D76, -, st76⟩ := newO X75 hx hZ hown (hw _ (List.mem_of_getElem? (i := 1) rfl)) (hw _ (List.mem_of_getElem? (i := 2) rfl)) (hw _ (List.mem_of_getElem? (i := 3) rfl)) rfl (g := (mkF m 148 #[.val (.int i0), .val (.long i1), .second, .val (.long i2), .second, .val (.int i3), .val (.int i4), .val (.ref b47), .val (.ref b50), .val (.int (1 : Int32)), .val (.ref b53), .val (.int (i4 &&& (31 : Int32))), .val (.ref b60), .val (.ref b64), .val (.ref b70), .unset] [])) rfl (hb hby at_148) (by decide) (by decide)
    obtain ⟨b76, g76⟩ : ∃ z, z = T75.heap.size := ⟨_, rfl⟩
    rw [← g76] at A76 D76 st76
    have f77 := ((f71.ext E70).keep Kp75 (ninS ne_b47_b70 nin0))
    have ne_b47_b76 : b47 ≠ b76 := Nat.ne_of_lt (Nat.lt_of_lt_of_le f77.lt (Nat.le_of_eq g76.symm))
    have f78 := ((f72.ext E70).keep Kp75)
    have ne_b50_b76 : b50 ≠ b76 := Nat.ne_of_lt (Nat.lt_of_lt_of_le f78.lt (Nat.le_of_eq g76.symm))
    have f79 := ((f73.ext E70).keep Kp75)
    have ne_b53_b76 : b53 ≠ b76 := Nat.ne_of_lt (Nat.lt_of_lt_of_le f79.lt (Nat.le_of_eq g76.symm))
    have f80 := ((f74.ext E70).keep Kp75)
    have ne_b60_b76 : b60 ≠ b76 := Nat.ne_of_lt (Nat.lt_of_lt_of_le f80.lt (Nat.le_of_eq g76.symm))
    have f81 := ((Ex69.ext E70).keep Kp75)
    have ne_b64_b76 : b64 ≠ b76 := Nat.ne_of_lt (Nat.lt_of_lt_of_le f81.lt (Nat.le_of_eq g76.symm))
    have ne_b70_b76 : b70 ≠ b76 := Nat.ne_of_lt (Nat.lt_of_lt_of_le Ex75.lt (Nat.le_of_eq g76.symm))
    have g_b76 : n0 ≤ b76 := Nat.le_trans (own_z O_75) (Nat.le_of_eq g76.symm)
    have O_76 := O_75.ext E76
    have F76_tag : Fld Z h76 b76 "com/example/gridclear/gridclear/cms/Ber$Header" "tag" "I" (.int (0 : Int32)) := D76 (Or.inr (hw _ (List.mem_of_getElem? (i := 16) rfl))) (ty := .int) (by decide)
    have F76_length : Fld Z h76 b76 "com/example/gridclear/gridclear/cms/Ber$Header" "length" "J" (.long (0 : Int64)) := D76 (Or.inr (hw _ (List.mem_of_getElem? (i := 18) rfl))) (ty := .long) (by decide)
    have F76_head : Fld Z h76 b76 "com/example/gridclear/gridclear/cms/Ber$Header" "head" "[B" .null := D76 (Or.inr (hw _ (List.mem_of_getElem? (i := 20) rfl))) (ty := (.array .byte)) (by decide)
    have F76_contentStart : Fld Z h76 b76 "com/example/gridclear/gridclear/cms/Ber$Header" "contentStart" "J" (.long (0 : Int64)) := D76 (Or.inr (hw _ (List.mem_of_getElem? (i := 22) rfl))) (ty := .long) (by decide)
    refine Goes.step (B := T76.setTop (mkF m 151 #[.val (.int i0), .val (.long i1), .second, .val (.long i2), .second, .val (.int i3), .val (.int i4), .val (.ref b47), .val (.ref b50), .val (.int (1 : Int32)), .val (.ref b53), .val (.int (i4 &&& (31 : Int32))), .val (.ref b60), .val (.ref b64), .val (.ref b70), .unset] [(.ref b76)])) st76 ?_
    refine Goes.step (B := T76.setTop (mkF m 152 #[.val (.int i0), .val (.long i1), .second, .val (.long i2), .second, .val (.int i3), .val (.int i4), .val (.ref b47), .val (.ref b50), .val (.int (1 : Int32)), .val (.ref b53), .val (.int (i4 &&& (31 : Int32))), .val (.ref b60), .val (.ref b64), .val (.ref b70), .unset] [(.ref b76), (.ref b76)])) (fun _ k => XS.dup X76.here hx rfl (hb hby at_151) rfl rfl k) ?_
    refine Goes.step (B := T76.setTop (mkF m 153 #[.val (.int i0), .val (.long i1), .second, .val (.long i2), .second, .val (.int i3), .val (.int i4), .val (.ref b47), .val (.ref b50), .val (.int (1 : Int32)), .val (.ref b53), .val (.int (i4 &&& (31 : Int32))), .val (.ref b60), .val (.ref b64), .val (.ref b70), .unset] [(.int (4 : Int32)), (.ref b76), (.ref b76)])) (fun _ k => XS.iconst X76.here hx rfl (hb hby at_152) k) ?_
    refine Goes.step (B := T76.setTop (mkF m 154 #[.val (.int i0), .val (.long i1), .second, .val (.long i2), .second, .val (.int i3), .val (.int i4), .val (.ref b47), .val (.ref b50), .val (.int (1 : Int32)), .val (.ref b53), .val (.int (i4 &&& (31 : Int32))), .val (.ref b60), .val (.ref b64), .val (.ref b70), .unset] [(.long i1), (.int (4 : Int32)), (.ref b76), (.ref b76)])) (fun _ k => XS.lloadN X76.here hx rfl (hb hby at_153) rfl k) ?_
    refine Goes.step (B := T76.setTop (mkF m 156 #[.val (.int i0), .val (.long i1), .second, .val (.long i2), .second, .val (.int i3), .val (.int i4), .val (.ref b47), .val (.ref b50), .val (.int (1 : Int32)), .val (.ref b53), .val (.int (i4 &&& (31 : Int32))), .val (.ref b60), .val (.ref b64), .val (.ref b70), .unset] [(.ref b47), (.long i1), (.int (4 : Int32)), (.ref b76), (.ref b76)])) (fun _ k => XS.aload X76.here hx rfl (hb hby at_154) rfl rfl k) ?_
    refine Goes.step (B := T76.setTop (mkF m 157 #[.val (.int i0), .val (.long i1), .second, .val (.long i2), .second, .val (.int i3), .val (.int i4), .val (.ref b47), .val (.ref b50), .val (.int (1 : Int32)), .val (.ref b53), .val (.int (i4 &&& (31 : Int32))), .val (.ref b60), .val (.ref b64), .val (.ref b70), .unset] [(.long i2), (.ref b47), (.long i1), (.int (4 : Int32)), (.ref b76), (.ref b76)])) (fun _ k => XS.lloadN X76.here hx rfl (hb hby at_156) rfl k) ?_
    obtain ⟨_, _, ⟨T82, L82, k82, n82⟩, -, X82, ⟨Lc82, hQ82, l82, y82, z82⟩, st82⟩ := X76.specialBack hx (y := (⟨"com/example/gridclear/gridclear/cms/Ber$Header", "<init>", "(IJ[BJ)V"⟩ : MethodName)) rfl hown (mvT hZ (hw _ (List.mem_of_getElem? (i := 4) rfl))) (mvT hZ (hw _ (List.mem_of_getElem? (i := 5) rfl))) (mvT hZ (hw _ (List.mem_of_getElem? (i := 6) rfl))) (by decide) (backOf (W := 1) (rm1 l Z a0 hw [] b76 (4 : Int32) i1 b47 i2 h76 n0 O_76 A76 g_b76 F76_tag F76_length F76_head F76_contentStart) hZ (hw _ (List.mem_of_getElem? (i := 6) rfl)) (hw _ (List.mem_of_getElem? (i := 3) rfl)) (by decide) (by decide)) (g := (mkF m 157 #[.val (.int i0), .val (.long i1), .second, .val (.long i2), .second, .val (.int i3), .val (.int i4), .val (.ref b47), .val (.ref b50), .val (.int (1 : Int32)), .val (.ref b53), .val (.int (i4 &&& (31 : Int32))), .val (.ref b60), .val (.ref b64), .val (.ref b70), .unset] [(.long i2), (.ref b47), (.long i1), (.int (4 : Int32)), (.ref b76), (.ref b76)])) rfl (by rw [hml]; rfl) (Steps.refl _) (a := b76) (argsL := [(.int (4 : Int32)), (.long i1), (.ref b47), (.long i2)]) (rest := [(.ref b76)]) (lenOf pd_1 rfl) rfl (by show 2 * 0 + _ ≤ _; exact Nat.le_of_eq rfl) (hb hby at_157) (fun _ _ => ⟨rfl, e76, (by decide : 7 + 0 ≤ _), (by decide : 26 + 0 ≤ _)⟩)
    dsimp only [Pt.U, Pt.locs, Pt.cells, Pt.slots] at X82 l82 y82 z82 st82 hQ82
    subst l82 y82 z82
    obtain ⟨rfl, Nq82, Kp82, Ex82, Fc82_tag, Fc82_length, Fc82_head, Fc82_contentStart⟩ := hQ82
    have O_82 := O_76.keep Kp82 (allS g_b76 all0)
    have N82 := Fr.app N75 Nq82
    refine Goes.via (B := T82.setTop (mkF m 160 #[.val (.int i0), .val (.long i1), .second, .val (.long i2), .second, .val (.int i3), .val (.int i4), .val (.ref b47), .val (.ref b50), .val (.int (1 : Int32)), .val (.ref b53), .val (.int (i4 &&& (31 : Int32))), .val (.ref b60), .val (.ref b64), .val (.ref b70), .unset] [(.ref b76)])) st82 ?_
    refine Goes.step (B := T82.setTop (mkF m 162 #[.val (.int i0), .val (.long i1), .second, .val (.long i2), .second, .val (.int i3), .val (.int i4), .val (.ref b47), .val (.ref b50), .val (.int (1 : Int32)), .val (.ref b53), .val (.int (i4 &&& (31 : Int32))), .val (.ref b60), .val (.ref b64), .val (.ref b70), .val (.ref b76)] [])) (fun _ k => XS.astore X82.here hx rfl (hb hby at_160) rfl rfl (l' := #[.val (.int i0), .val (.long i1), .second, .val (.long i2), .second, .val (.int i3), .val (.int i4), .val (.ref b47), .val (.ref b50), .val (.int (1 : Int32)), .val (.ref b53), .val (.int (i4 &&& (31 : Int32))), .val (.ref b60), .val (.ref b64), .val (.ref b70), .val (.ref b76)]) rfl k) ?_
    refine Goes.step (B := T82.setTop (mkF m 164 #[.val (.int i0), .val (.long i1), .second, .val (.long i2), .second, .val (.int i3), .val (.int i4), .val (.ref b47), .val (.ref b50), .val (.int (1 : Int32)), .val (.ref b53), .val (.int (i4 &&& (31 : Int32))), .val (.ref b60), .val (.ref b64), .val (.ref b70), .val (.ref b76)] [(.ref b60)])) (fun _ k => XS.aload X82.here hx rfl (hb hby at_162) rfl rfl k) ?_
    have f84 := ((((((Fc63_tag.ext E64).keep Kp69 (ninS ne_b60_b64 nin0)).ext E70).keep Kp75 (ninS ne_b60_b70 nin0)).ext E76).keep Kp82 (ninS ne_b60_b76 nin0))
    have f85 := ((f80.ext E76).keep Kp82)
    obtain ⟨cq83, kq83, qa83, qb83, qc83⟩ := isOf hZ rfl f85
    obtain ⟨_, _, ⟨T83, L83, k83, n83⟩, -, X83, ⟨Lc83, hQ83, l83, y83, z83⟩, st83⟩ := X82.virtualBack hx (y := (⟨"com/example/gridclear/gridclear/cms/Ber$Header", "constructed", "()Z"⟩ : MethodName)) (z := (⟨"com/example/gridclear/gridclear/cms/Ber$Header", "constructed", "()Z"⟩ : MethodName)) hown (mvT hZ (hw _ (List.mem_of_getElem? (i := 23) rfl))) (mvT hZ (hw _ (List.mem_of_getElem? (i := 24) rfl))) (notFace_of_selects (args := #[]) (mvT hZ (hw _ (List.mem_of_getElem? (i := 26) rfl)))) (mvT hZ (hw _ (List.mem_of_getElem? (i := 26) rfl))) (mvT hZ (hw _ (List.mem_of_getElem? (i := 25) rfl))) (by decide) (backOf (W := 0) (rmc1 l Z a0 hw [] b60 ((160 : Int32) ||| (i4 &&& (31 : Int32))) T82.heap n0 O_82 q31.1 f84) hZ (hw _ (List.mem_of_getElem? (i := 27) rfl)) (hw _ (List.mem_of_getElem? (i := 3) rfl)) (by decide) (by decide)) qa83 qc83 (g := (mkF m 164 #[.val (.int i0), .val (.long i1), .second, .val (.long i2), .second, .val (.int i3), .val (.int i4), .val (.ref b47), .val (.ref b50), .val (.int (1 : Int32)), .val (.ref b53), .val (.int (i4 &&& (31 : Int32))), .val (.ref b60), .val (.ref b64), .val (.ref b70), .val (.ref b76)] [(.ref b60)])) rfl (by rw [hml]; rfl) (Steps.refl _) (argsL := []) (rest := []) (lenOf pd_2 rfl) rfl (by show 2 * 0 + _ ≤ _; exact Nat.le_of_eq rfl) (hb hby at_164) (fun _ _ => ⟨rfl, rfl, (by decide : 7 + 0 ≤ _), (by decide : 26 + 0 ≤ _)⟩)
    dsimp only [Pt.U, Pt.locs, Pt.cells, Pt.slots] at X83 l83 y83 z83 st83 hQ83
    subst l83 y83 z83
    obtain ⟨rfl, Nq83, eh83⟩ := hQ83
    have N83 := Fr.app N82 Nq83
    refine Goes.via (B := T83.setTop (mkF m 167 #[.val (.int i0), .val (.long i1), .second, .val (.long i2), .second, .val (.int i3), .val (.int i4), .val (.ref b47), .val (.ref b50), .val (.int (1 : Int32)), .val (.ref b53), .val (.int (i4 &&& (31 : Int32))), .val (.ref b60), .val (.ref b64), .val (.ref b70), .val (.ref b76)] [(.int (1 : Int32))])) st83 ?_
    refine Goes.step (B := T83.setTop (mkF m 170 #[.val (.int i0), .val (.long i1), .second, .val (.long i2), .second, .val (.int i3), .val (.int i4), .val (.ref b47), .val (.ref b50), .val (.int (1 : Int32)), .val (.ref b53), .val (.int (i4 &&& (31 : Int32))), .val (.ref b60), .val (.ref b64), .val (.ref b70), .val (.ref b76)] [])) (fun _ k => XS.ifNo X83.here hx rfl (hb hby at_167) rfl ((if0 _ _).trans (feq (by decide)).1) k) ?_
    refine Goes.step (B := T83.setTop (mkF m 172 #[.val (.int i0), .val (.long i1), .second, .val (.long i2), .second, .val (.int i3), .val (.int i4), .val (.ref b47), .val (.ref b50), .val (.int (1 : Int32)), .val (.ref b53), .val (.int (i4 &&& (31 : Int32))), .val (.ref b60), .val (.ref b64), .val (.ref b70), .val (.ref b76)] [(.ref b64)])) (fun _ k => XS.aload X83.here hx rfl (hb hby at_170) rfl rfl k) ?_
    have f87 := ((((Fc69_tag.ext E70).keep Kp75 (ninS ne_b64_b70 nin0)).ext E76).keep Kp82 (ninS ne_b64_b76 nin0))
    have f88 := ((f81.ext E76).keep Kp82)
    obtain ⟨cq86, kq86, qa86, qb86, qc86⟩ := isOf hZ eh83 f88
    obtain ⟨_, _, ⟨T86, L86, k86, n86⟩, -, X86, ⟨Lc86, hQ86, l86, y86, z86⟩, st86⟩ := X83.virtualBack hx (y := (⟨"com/example/gridclear/gridclear/cms/Ber$Header", "constructed", "()Z"⟩ : MethodName)) (z := (⟨"com/example/gridclear/gridclear/cms/Ber$Header", "constructed", "()Z"⟩ : MethodName)) hown (mvT hZ (hw _ (List.mem_of_getElem? (i := 23) rfl))) (mvT hZ (hw _ (List.mem_of_getElem? (i := 24) rfl))) (notFace_of_selects (args := #[]) (mvT hZ (hw _ (List.mem_of_getElem? (i := 26) rfl)))) (mvT hZ (hw _ (List.mem_of_getElem? (i := 26) rfl))) (mvT hZ (hw _ (List.mem_of_getElem? (i := 25) rfl))) (by decide) (backOf (W := 0) (rmc0 l Z a0 hw [] b64 ((128 : Int32) ||| (i4 &&& (31 : Int32))) T82.heap n0 O_82 q31.2 f87) hZ (hw _ (List.mem_of_getElem? (i := 27) rfl)) (hw _ (List.mem_of_getElem? (i := 3) rfl)) (by decide) (by decide)) qa86 qc86 (g := (mkF m 172 #[.val (.int i0), .val (.long i1), .second, .val (.long i2), .second, .val (.int i3), .val (.int i4), .val (.ref b47), .val (.ref b50), .val (.int (1 : Int32)), .val (.ref b53), .val (.int (i4 &&& (31 : Int32))), .val (.ref b60), .val (.ref b64), .val (.ref b70), .val (.ref b76)] [(.ref b64)])) rfl (by rw [hml]; rfl) (Steps.refl _) (argsL := []) (rest := []) (lenOf pd_2 rfl) rfl (by show 2 * 0 + _ ≤ _; exact Nat.le_of_eq rfl) (hb hby at_172) (fun _ _ => ⟨rfl, eh83, (by decide : 7 + 0 ≤ _), (by decide : 26 + 0 ≤ _)⟩)
    dsimp only [Pt.U, Pt.locs, Pt.cells, Pt.slots] at X86 l86 y86 z86 st86 hQ86
    subst l86 y86 z86
    obtain ⟨rfl, Nq86, eh86⟩ := hQ86
    have N86 := Fr.app N83 Nq86
    refine Goes.via (B := T86.setTop (mkF m 175 #[.val (.int i0), .val (.long i1), .second, .val (.long i2), .second, .val (.int i3), .val (.int i4), .val (.ref b47), .val (.ref b50), .val (.int (1 : Int32)), .val (.ref b53), .val (.int (i4 &&& (31 : Int32))), .val (.ref b60), .val (.ref b64), .val (.ref b70), .val (.ref b76)] [(.int (0 : Int32))])) st86 ?_
    refine Goes.step (B := T86.setTop (mkF m 178 #[.val (.int i0), .val (.long i1), .second, .val (.long i2), .second, .val (.int i3), .val (.int i4), .val (.ref b47), .val (.ref b50), .val (.int (1 : Int32)), .val (.ref b53), .val (.int (i4 &&& (31 : Int32))), .val (.ref b60), .val (.ref b64), .val (.ref b70), .val (.ref b76)] [])) (fun _ k => XS.ifNo X86.here hx rfl (hb hby at_175) rfl ((if0 _ _).trans (teq (by decide)).2) k) ?_
    refine Goes.step (B := T86.setTop (mkF m 180 #[.val (.int i0), .val (.long i1), .second, .val (.long i2), .second, .val (.int i3), .val (.int i4), .val (.ref b47), .val (.ref b50), .val (.int (1 : Int32)), .val (.ref b53), .val (.int (i4 &&& (31 : Int32))), .val (.ref b60), .val (.ref b64), .val (.ref b70), .val (.ref b76)] [(.ref b70)])) (fun _ k => XS.aload X86.here hx rfl (hb hby at_178) rfl rfl k) ?_
    have f90 := ((Fc75_tag.ext E76).keep Kp82 (ninS ne_b70_b76 nin0))
    have f91 := ((Ex75.ext E76).keep Kp82)
    obtain ⟨cq89, kq89, qa89, qb89, qc89⟩ := isOf hZ eh86 f91
    obtain ⟨_, _, ⟨T89, L89, k89, n89⟩, -, X89, ⟨Lc89, hQ89, l89, y89, z89⟩, st89⟩ := X86.virtualBack hx (y := (⟨"com/example/gridclear/gridclear/cms/Ber$Header", "constructed", "()Z"⟩ : MethodName)) (z := (⟨"com/example/gridclear/gridclear/cms/Ber$Header", "constructed", "()Z"⟩ : MethodName)) hown (mvT hZ (hw _ (List.mem_of_getElem? (i := 23) rfl))) (mvT hZ (hw _ (List.mem_of_getElem? (i := 24) rfl))) (notFace_of_selects (args := #[]) (mvT hZ (hw _ (List.mem_of_getElem? (i := 26) rfl)))) (mvT hZ (hw _ (List.mem_of_getElem? (i := 26) rfl))) (mvT hZ (hw _ (List.mem_of_getElem? (i := 25) rfl))) (by decide) (backOf (W := 0) (rmc1 l Z a0 hw [] b70 (48 : Int32) T82.heap n0 O_82 (by decide) f90) hZ (hw _ (List.mem_of_getElem? (i := 27) rfl)) (hw _ (List.mem_of_getElem? (i := 3) rfl)) (by decide) (by decide)) qa89 qc89 (g := (mkF m 180 #[.val (.int i0), .val (.long i1), .second, .val (.long i2), .second, .val (.int i3), .val (.int i4), .val (.ref b47), .val (.ref b50), .val (.int (1 : Int32)), .val (.ref b53), .val (.int (i4 &&& (31 : Int32))), .val (.ref b60), .val (.ref b64), .val (.ref b70), .val (.ref b76)] [(.ref b70)])) rfl (by rw [hml]; rfl) (Steps.refl _) (argsL := []) (rest := []) (lenOf pd_2 rfl) rfl (by show 2 * 0 + _ ≤ _; exact Nat.le_of_eq rfl) (hb hby at_180) (fun _ _ => ⟨rfl, eh86, (by decide : 7 + 0 ≤ _), (by decide : 26 + 0 ≤ _)⟩)
    dsimp only [Pt.U, Pt.locs, Pt.cells, Pt.slots] at X89 l89 y89 z89 st89 hQ89
    subst l89 y89 z89
    obtain ⟨rfl, Nq89, eh89⟩ := hQ89
    have N89 := Fr.app N86 Nq89
    refine Goes.via (B := T89.setTop (mkF m 183 #[.val (.int i0), .val (.long i1), .second, .val (.long i2), .second, .val (.int i3), .val (.int i4), .val (.ref b47), .val (.ref b50), .val (.int (1 : Int32)), .val (.ref b53), .val (.int (i4 &&& (31 : Int32))), .val (.ref b60), .val (.ref b64), .val (.ref b70), .val (.ref b76)] [(.int (1 : Int32))])) st89 ?_
    refine Goes.step (B := T89.setTop (mkF m 186 #[.val (.int i0), .val (.long i1), .second, .val (.long i2), .second, .val (.int i3), .val (.int i4), .val (.ref b47), .val (.ref b50), .val (.int (1 : Int32)), .val (.ref b53), .val (.int (i4 &&& (31 : Int32))), .val (.ref b60), .val (.ref b64), .val (.ref b70), .val (.ref b76)] [])) (fun _ k => XS.ifNo X89.here hx rfl (hb hby at_183) rfl ((if0 _ _).trans (feq (by decide)).1) k) ?_
    refine Goes.step (B := T89.setTop (mkF m 188 #[.val (.int i0), .val (.long i1), .second, .val (.long i2), .second, .val (.int i3), .val (.int i4), .val (.ref b47), .val (.ref b50), .val (.int (1 : Int32)), .val (.ref b53), .val (.int (i4 &&& (31 : Int32))), .val (.ref b60), .val (.ref b64), .val (.ref b70), .val (.ref b76)] [(.ref b76)])) (fun _ k => XS.aload X89.here hx rfl (hb hby at_186) rfl rfl k) ?_
    obtain ⟨cq92, kq92, qa92, qb92, qc92⟩ := isOf hZ eh89 Ex82
    obtain ⟨_, _, ⟨T92, L92, k92, n92⟩, -, X92, ⟨Lc92, hQ92, l92, y92, z92⟩, st92⟩ := X89.virtualBack hx (y := (⟨"com/example/gridclear/gridclear/cms/Ber$Header", "constructed", "()Z"⟩ : MethodName)) (z := (⟨"com/example/gridclear/gridclear/cms/Ber$Header", "constructed", "()Z"⟩ : MethodName)) hown (mvT hZ (hw _ (List.mem_of_getElem? (i := 23) rfl))) (mvT hZ (hw _ (List.mem_of_getElem? (i := 24) rfl))) (notFace_of_selects (args := #[]) (mvT hZ (hw _ (List.mem_of_getElem? (i := 26) rfl)))) (mvT hZ (hw _ (List.mem_of_getElem? (i := 26) rfl))) (mvT hZ (hw _ (List.mem_of_getElem? (i := 25) rfl))) (by decide) (backOf (W := 0) (rmc0 l Z a0 hw [] b76 (4 : Int32) T82.heap n0 O_82 (by decide) Fc82_tag) hZ (hw _ (List.mem_of_getElem? (i := 27) rfl)) (hw _ (List.mem_of_getElem? (i := 3) rfl)) (by decide) (by decide)) qa92 qc92 (g := (mkF m 188 #[.val (.int i0), .val (.long i1), .second, .val (.long i2), .second, .val (.int i3), .val (.int i4), .val (.ref b47), .val (.ref b50), .val (.int (1 : Int32)), .val (.ref b53), .val (.int (i4 &&& (31 : Int32))), .val (.ref b60), .val (.ref b64), .val (.ref b70), .val (.ref b76)] [(.ref b76)])) rfl (by rw [hml]; rfl) (Steps.refl _) (argsL := []) (rest := []) (lenOf pd_2 rfl) rfl (by show 2 * 0 + _ ≤ _; exact Nat.le_of_eq rfl) (hb hby at_188) (fun _ _ => ⟨rfl, eh89, (by decide : 7 + 0 ≤ _), (by decide : 26 + 0 ≤ _)⟩)
    dsimp only [Pt.U, Pt.locs, Pt.cells, Pt.slots] at X92 l92 y92 z92 st92 hQ92
    subst l92 y92 z92
    obtain ⟨rfl, Nq92, eh92⟩ := hQ92
    have N92 := Fr.app N89 Nq92
    refine Goes.via (B := T92.setTop (mkF m 191 #[.val (.int i0), .val (.long i1), .second, .val (.long i2), .second, .val (.int i3), .val (.int i4), .val (.ref b47), .val (.ref b50), .val (.int (1 : Int32)), .val (.ref b53), .val (.int (i4 &&& (31 : Int32))), .val (.ref b60), .val (.ref b64), .val (.ref b70), .val (.ref b76)] [(.int (0 : Int32))])) st92 ?_
    refine Goes.step (B := T92.setTop (mkF m 194 #[.val (.int i0), .val (.long i1), .second, .val (.long i2), .second, .val (.int i3), .val (.int i4), .val (.ref b47), .val (.ref b50), .val (.int (1 : Int32)), .val (.ref b53), .val (.int (i4 &&& (31 : Int32))), .val (.ref b60), .val (.ref b64), .val (.ref b70), .val (.ref b76)] [])) (fun _ k => XS.ifNo X92.here hx rfl (hb hby at_191) rfl ((if0 _ _).trans (teq (by decide)).2) k) ?_
    refine Goes.step (B := T92.setTop (mkF m 195 #[.val (.int i0), .val (.long i1), .second, .val (.long i2), .second, .val (.int i3), .val (.int i4), .val (.ref b47), .val (.ref b50), .val (.int (1 : Int32)), .val (.ref b53), .val (.int (i4 &&& (31 : Int32))), .val (.ref b60), .val (.ref b64), .val (.ref b70), .val (.ref b76)] [(.int (1 : Int32))])) (fun _ k => XS.iconst X92.here hx rfl (hb hby at_194) k) ?_
    refine Goes.step (B := T92.setTop (mkF m 199 #[.val (.int i0), .val (.long i1), .second, .val (.long i2), .second, .val (.int i3), .val (.int i4), .val (.ref b47), .val (.ref b50), .val (.int (1 : Int32)), .val (.ref b53), .val (.int (i4 &&& (31 : Int32))), .val (.ref b60), .val (.ref b64), .val (.ref b70), .val (.ref b76)] [(.int (1 : Int32))])) (fun _ k => XS.goto X92.here hx rfl (pc0 := 195) (pc' := 199) rfl (hb hby at_195) (by decide) (by decide) k) ?_
    exact Goes.retN X92 hx eh92 (t := .boolean) Bd.returns (by simp) hlk (hb hby at_199) (by decide) (by decide) (⟨rfl, N92⟩)
set_option maxRecDepth 65536 in
set_option maxHeartbeats 40000000 in
theorem comes_1 {Post : Tables → Env → Array Value → State → Outcome → State → Prop} (hpost : ∀ tb e args s v u, (limb_1_1.after args s (.returned v) u = true ∧ limb_1_2.after args s (.returned v) u = true ∧ True) → FrameEnd s (.returned v) u (Jvm.fieldLocs frame_1_writes args s ++ Jvm.arrayLocs frame_1_arrays args s ++ Jvm.staticLocs frame_1_statics s) 24 128 → Post tb e args s (.returned v) u) :
    ArmFor flags0 classFile x code maxLocals ret World_1 tables_1 room_1 Calls_1 rest_1 Pre_1 Post := by
  intro l hfl _ _ p e ha hc hk s m args below hf hA hF happ hP
  obtain ⟨hcalls, hrest, hpre⟩ := hP
  obtain ⟨-, -, -, hnamed, -, -, -, hat⟩ := (Spec.applies_iff hf).mp happ
  obtain ⟨hg, hn⟩ := and_e (Cond.before_iff.mp (show (Jvm.Cond.and given_1 narrow_1).before args s = true from hpre))
  obtain ⟨hcount, hg⟩ := and_e hg
  obtain ⟨w0, w1, w2, w3, w4, rfl⟩ : ∃ w0 w1 w2 w3 w4 : Value, args = #[w0, w1, w2, w3, w4] := by
    have hs : args.size = 5 := by simpa [Cond.value, given_1] using hcount
    obtain ⟨L⟩ := args
    match L, hs with
    | [w0, w1, w2, w3, w4], _ => exact ⟨w0, w1, w2, w3, w4, rfl⟩
  have hw := fun d (hd : d ∈ tables_1) => atoms_spec (ws := Jvm.Cond.code x code maxLocals ret :: tables_1) hat d (List.mem_cons_of_mem _ hd)
  have hfit : Fit s := fun {y c} hc i hi => by
    obtain ⟨ha, rfl⟩ := Array.getElem?_eq_some_iff.mp hc
    have q := List.all_eq_true.mp ((Array.all_eq_true_iff_forall_mem.mp hF) _ (Array.getElem_mem ha)) i (List.mem_range.mpr hi)
    simpa [Array.getElem?_eq_getElem hi] using q
  obtain ⟨hi0, hg0⟩ := and_e hg
  obtain ⟨i0, ei0⟩ := is_v hi0
  obtain rfl : w0 = (.int i0) := Option.some.inj ei0
  obtain ⟨hi1, hg1⟩ := and_e hg0
  obtain ⟨i1, ei1⟩ := isL_v hi1
  obtain rfl : w1 = (.long i1) := Option.some.inj ei1
  obtain ⟨hi2, hg2⟩ := and_e hg1
  obtain ⟨i2, ei2⟩ := isL_v hi2
  obtain rfl : w2 = (.long i2) := Option.some.inj ei2
  obtain ⟨hi3, hg3⟩ := and_e hg2
  obtain ⟨i3, ei3⟩ := is_v hi3
  obtain rfl : w3 = (.int i3) := Option.some.inj ei3
  obtain ⟨i4, ei4⟩ := is_v hg3
  obtain rfl : w4 = (.int i4) := Option.some.inj ei4
  obtain ⟨n, o, h1, h2, h3, _, L, rfl, ⟨rfl, N⟩, hq⟩ := rm0 l s _ hw tables_1 i0 i1 i2 i3 i4 s.heap s.heap.size (Old.start s)  p e ha hc hk s m _ below hf ((Spec.applies_iff_loose hf).mp happ).1 ⟨rfl, State.Warmed39.refl s, rfl⟩ trivial
  refine ⟨n, _, h1, h2, h3, hpost _ _ _ _ _ _ ⟨Cond.after_iff.mpr rfl, Cond.after_iff.mpr (eq_i res_at (Term.int_eval (1)) rfl), trivial⟩ ⟨hq.1, hq.2.1, (hq.2.2.sift fun y hy => Or.inr (N y hy)).mono (by decide) (by decide)⟩⟩
theorem main_1_1 : Claimed_1_1 := comes_1 fun _ _ _ _ _ _ h hF => ⟨h.1, hF⟩
theorem main_1_2 : Claimed_1_2 := comes_1 fun _ _ _ _ _ _ h hF => ⟨h.2.1, hF⟩
end Jvm.Pilot.@@N@@
namespace Jvm.Pilot.@@N@@
open Jvm Jvm.ClassFile Sem Op Lib Jvm.Free Jvm.Stand Jvm.Pilot.@@N@@.Jvm.D
/-! MADE BY PROGRAM (witnessworld.py) out of the Statement's table words and the real class files: 11 classes; the members and pool entries that the words name. The judged class is class 1, her method 1. -/
namespace start1
open Jvm.ClassFile
def u (s : String) : CpInfo := .utf8 (stringToUtf16 s)
/-- a pool by its gaps: so many unusable entries, then the entry; so many at the end -/
def gap : Nat → List CpInfo → List CpInfo
  | 0, r => r
  | n + 1, r => .unusable :: gap n r
def poolList (es : List (Nat × CpInfo)) (last : Nat) : List CpInfo := es.foldr (fun e r => gap e.1 (e.2 :: r)) (gap last [])
def pool (es : List (Nat × CpInfo)) (last : Nat) : Array CpInfo := ⟨poolList es last⟩
def fileOf (pool : Array CpInfo) (this : Nat) (attrs : Array Attribute := #[]) (ms : Array MethodInfo := #[]) (fl : Nat := 33) (sup : Nat := 0) (ifs : Array Nat := #[]) (fds : Array FieldInfo := #[]) : ClassFile where
  minorVersion := 0
  majorVersion := 65
  constantPool := pool
  accessFlags := fl
  thisClass := this
  superClass := sup
  interfaces := ifs
  fields := fds
  methods := ms
  attributes := attrs
def plain (name : String) (sup : Option ClassId) : Class where
  name := name
  kind := .ordinary
  loader := none
  accessFlags := 33
  super := sup
  interfaces := #[]
  cf := none
  fields := #[]
  methods := #[]
  instanceTypes := #[]
  staticTypes := #[]
  resolved := #[]
  callSites := []
  init := .initialized
  statics := none
  mirror := none

def pool0 : Array CpInfo := pool [(5, u "<init>"), (0, u "()V"), (1, .class_ 10), (1, u "java/lang/Object")] 113

def k0c0 : Code := { maxStack := 0, maxLocals := 1, code := object_method_1_code, exceptionTable := #[], attributes := #[] }
def k0m0 : Method := { name := "<init>", desc := "()V", sig := { parameters := [], returnType := none }, accessFlags := 1, code := some k0c0 }
/-- java/lang/Object -/
def k0 : Class := { plain "java/lang/Object" none with
  accessFlags := 33
  interfaces := #[]
  cf := some (fileOf pool0 8 #[] #[{ accessFlags := 1, nameIndex := 5, descriptorIndex := 6, attributes := #[] }] 33 0 #[] #[])
  fields := #[]
  methods := #[k0m0]
  instanceTypes := #[]
  staticTypes := #[]
  resolved := Array.replicate 124 none
  statics := none }

def pool1 : Array CpInfo := pool [(2, .class_ 4), (1, u "java/lang/Object"), (0, u "<init>"), (0, u "()V"), (0, .class_ 8), (0, u "com/example/gridclear/gridclear/cms/Ber$Header"), (0, .methodref 7 10), (0, .nameAndType 5 11), (0, u "(IJ[BJ)V"), (0, .methodref 7 13), (0, .nameAndType 14 15), (0, u "constructed"), (0, u "()Z"), (0, .methodref 17 18), (0, .class_ 19), (0, .nameAndType 20 21), (0, u "com/example/gridclear/gridclear/cms/Der"), (0, u "context"), (0, u "(I)I"), (0, .methodref 17 23), (0, .nameAndType 24 21), (0, u "contextPrimitive"), (0, .class_ 26), (0, u "com/example/gridclear/gridclear/cms/HeaderConstructedPinLaw"), (2, u "law"), (0, u "(IJJII)Z")] 9

def k1m0 : Method := { name := "<init>", desc := "()V", sig := { parameters := [], returnType := none }, accessFlags := 2, code := none }
def k1c1 : Code := { maxStack := 8, maxLocals := 16, code := code, exceptionTable := #[], attributes := #[] }
def k1m1 : Method := { name := "law", desc := "(IJJII)Z", sig := { parameters := [.int, .long, .long, .int, .int], returnType := some .boolean }, accessFlags := 9, code := some k1c1 }
/-- com/example/gridclear/gridclear/cms/HeaderConstructedPinLaw -/
def k1 : Class := { plain "com/example/gridclear/gridclear/cms/HeaderConstructedPinLaw" (some 0) with
  accessFlags := 49
  interfaces := #[]
  cf := some (fileOf pool1 25 #[] #[{ accessFlags := 2, nameIndex := 5, descriptorIndex := 6, attributes := #[] }, { accessFlags := 9, nameIndex := 29, descriptorIndex := 30, attributes := #[] }] 49 2 #[] #[])
  fields := #[]
  methods := #[k1m0, k1m1]
  instanceTypes := #[]
  staticTypes := #[]
  resolved := Array.replicate 40 none
  statics := none }

def pool2 : Array CpInfo := pool [(1, .methodref 2 3), (0, .class_ 4), (0, .nameAndType 5 6), (0, u "java/lang/Object"), (0, u "<init>"), (0, u "()V"), (0, .class_ 8), (0, u "java/lang/Record")] 13

def k2c0 : Code := { maxStack := 1, maxLocals := 1, code := jdk_30_method_1_code, exceptionTable := #[], attributes := #[] }
def k2m0 : Method := { name := "<init>", desc := "()V", sig := { parameters := [], returnType := none }, accessFlags := 4, code := some k2c0 }
/-- java/lang/Record -/
def k2 : Class := { plain "java/lang/Record" (some 0) with
  accessFlags := 1057
  interfaces := #[]
  cf := some (fileOf pool2 7 #[] #[{ accessFlags := 4, nameIndex := 5, descriptorIndex := 6, attributes := #[] }] 1057 2 #[] #[])
  fields := #[]
  methods := #[k2m0]
  instanceTypes := #[]
  staticTypes := #[]
  resolved := Array.replicate 22 none
  statics := none }

def pool3 : Array CpInfo := pool [(1, .methodref 2 3), (0, .class_ 4), (0, .nameAndType 5 6), (0, u "java/lang/Record"), (0, u "<init>"), (0, u "()V"), (0, .fieldref 8 9), (0, .class_ 10), (0, .nameAndType 11 12), (0, u "com/example/gridclear/gridclear/cms/Ber$Header"), (0, u "tag"), (0, u "I"), (0, .fieldref 8 14), (0, .nameAndType 15 16), (0, u "length"), (0, u "J"), (0, .fieldref 8 18), (0, .nameAndType 19 20), (0, u "head"), (0, u "[B"), (0, .fieldref 8 22), (0, .nameAndType 23 16), (0, u "contentStart"), (12, u "(IJ[BJ)V"), (3, u "constructed"), (0, u "()Z"), (9, .class_ 52), (0, u "com/example/gridclear/gridclear/cms/Ber")] 22

def k3c0 : Code := { maxStack := 3, maxLocals := 7, code := prog_17_method_1_code, exceptionTable := #[], attributes := #[] }
def k3m0 : Method := { name := "<init>", desc := "(IJ[BJ)V", sig := { parameters := [.int, .long, (.array .byte), .long], returnType := none }, accessFlags := 0, code := some k3c0 }
def k3c1 : Code := { maxStack := 2, maxLocals := 1, code := prog_17_method_2_code, exceptionTable := #[], attributes := #[] }
def k3m1 : Method := { name := "constructed", desc := "()Z", sig := { parameters := [], returnType := some .boolean }, accessFlags := 0, code := some k3c1 }
/-- com/example/gridclear/gridclear/cms/Ber$Header -/
def k3 : Class := { plain "com/example/gridclear/gridclear/cms/Ber$Header" (some 2) with
  accessFlags := 48
  interfaces := #[]
  cf := some (fileOf pool3 8 #[.nestHost 51] #[{ accessFlags := 0, nameIndex := 5, descriptorIndex := 36, attributes := #[] }, { accessFlags := 0, nameIndex := 40, descriptorIndex := 41, attributes := #[] }] 48 2 #[] #[{ accessFlags := 18, nameIndex := 11, descriptorIndex := 12, attributes := #[] }, { accessFlags := 18, nameIndex := 15, descriptorIndex := 16, attributes := #[] }, { accessFlags := 18, nameIndex := 19, descriptorIndex := 20, attributes := #[] }, { accessFlags := 18, nameIndex := 23, descriptorIndex := 16, attributes := #[] }])
  fields := #[{ name := "tag", type := .int, accessFlags := 18, slot := 0, constantValue := 0 }, { name := "length", type := .long, accessFlags := 18, slot := 1, constantValue := 0 }, { name := "head", type := (.array .byte), accessFlags := 18, slot := 2, constantValue := 0 }, { name := "contentStart", type := .long, accessFlags := 18, slot := 3, constantValue := 0 }]
  methods := #[k3m0, k3m1]
  instanceTypes := #[.int, .long, (.array .byte), .long]
  staticTypes := #[]
  resolved := Array.replicate 75 none
  statics := none }

def pool4 : Array CpInfo := pool [(2, .class_ 4), (1, u "java/lang/Object"), (0, u "<init>"), (0, u "()V"), (18, .class_ 27), (1, u "com/example/gridclear/gridclear/cms/Der"), (3, u "[B"), (78, u "NULL"), (2, u "NOTHING"), (0, u "INTEGER"), (0, u "I"), (2, u "OCTET_STRING"), (1, u "OBJECT_IDENTIFIER"), (1, u "SEQUENCE"), (1, u "SET"), (3, u "context"), (0, u "(I)I"), (0, u "contextPrimitive")] 45

def k4m0 : Method := { name := "<init>", desc := "()V", sig := { parameters := [], returnType := none }, accessFlags := 2, code := none }
def k4c1 : Code := { maxStack := 2, maxLocals := 1, code := prog_20_method_2_code, exceptionTable := #[], attributes := #[] }
def k4m1 : Method := { name := "context", desc := "(I)I", sig := { parameters := [.int], returnType := some .int }, accessFlags := 8, code := some k4c1 }
def k4c2 : Code := { maxStack := 2, maxLocals := 1, code := prog_20_method_3_code, exceptionTable := #[], attributes := #[] }
def k4m2 : Method := { name := "contextPrimitive", desc := "(I)I", sig := { parameters := [.int], returnType := some .int }, accessFlags := 8, code := some k4c2 }
/-- com/example/gridclear/gridclear/cms/Der -/
def k4 : Class := { plain "com/example/gridclear/gridclear/cms/Der" (some 0) with
  accessFlags := 48
  interfaces := #[]
  cf := some (fileOf pool4 25 #[] #[{ accessFlags := 2, nameIndex := 5, descriptorIndex := 6, attributes := #[] }, { accessFlags := 8, nameIndex := 128, descriptorIndex := 129, attributes := #[] }, { accessFlags := 8, nameIndex := 130, descriptorIndex := 129, attributes := #[] }] 48 2 #[] #[{ accessFlags := 24, nameIndex := 114, descriptorIndex := 115, attributes := #[] }, { accessFlags := 24, nameIndex := 118, descriptorIndex := 115, attributes := #[] }, { accessFlags := 24, nameIndex := 120, descriptorIndex := 115, attributes := #[] }, { accessFlags := 24, nameIndex := 122, descriptorIndex := 115, attributes := #[] }, { accessFlags := 24, nameIndex := 124, descriptorIndex := 115, attributes := #[] }, { accessFlags := 24, nameIndex := 110, descriptorIndex := 31, attributes := #[] }, { accessFlags := 24, nameIndex := 113, descriptorIndex := 31, attributes := #[] }])
  fields := #[{ name := "INTEGER", type := .int, accessFlags := 24, slot := 0, constantValue := 0 }, { name := "OCTET_STRING", type := .int, accessFlags := 24, slot := 1, constantValue := 0 }, { name := "OBJECT_IDENTIFIER", type := .int, accessFlags := 24, slot := 2, constantValue := 0 }, { name := "SEQUENCE", type := .int, accessFlags := 24, slot := 3, constantValue := 0 }, { name := "SET", type := .int, accessFlags := 24, slot := 4, constantValue := 0 }, { name := "NULL", type := (.array .byte), accessFlags := 24, slot := 5, constantValue := 0 }, { name := "NOTHING", type := (.array .byte), accessFlags := 24, slot := 6, constantValue := 0 }]
  methods := #[k4m0, k4m1, k4m2]
  instanceTypes := #[]
  staticTypes := #[.int, .int, .int, .int, .int, (.array .byte), (.array .byte)]
  resolved := Array.replicate 176 none
  statics := none }

def pool5 : Array CpInfo := pool [(1, u "java/lang/Cloneable"), (0, .class_ 1), (0, u "java/lang/Object"), (0, .class_ 3)] 3

/-- java/lang/Cloneable -/
def k5 : Class := { plain "java/lang/Cloneable" (some 0) with
  accessFlags := 1537
  interfaces := #[]
  cf := some (fileOf pool5 2 #[] #[] 1537 4 #[] #[])
  fields := #[]
  methods := #[]
  instanceTypes := #[]
  staticTypes := #[]
  resolved := Array.replicate 8 none
  statics := none }

def pool6 : Array CpInfo := pool [(1, u "java/io/Serializable"), (0, .class_ 1), (0, u "java/lang/Object"), (0, .class_ 3)] 3

/-- java/io/Serializable -/
def k6 : Class := { plain "java/io/Serializable" (some 0) with
  accessFlags := 1537
  interfaces := #[]
  cf := some (fileOf pool6 2 #[] #[] 1537 4 #[] #[])
  fields := #[]
  methods := #[]
  instanceTypes := #[]
  staticTypes := #[]
  resolved := Array.replicate 8 none
  statics := none }

/-- the primitive byte -/
def k7 : Class := { plain "byte" none with kind := .primitive 'B', accessFlags := 0x411 }
/-- [B -/
def k8 : Class := { plain "[B" (some 0) with kind := .array 7 .byte, interfaces := #[5, 6], accessFlags := 1041 }

/-- the primitive int -/
def k9 : Class := { plain "int" none with kind := .primitive 'I', accessFlags := 0x411 }
/-- [I -/
def k10 : Class := { plain "[I" (some 0) with kind := .array 9 .int, interfaces := #[5, 6], accessFlags := 1041 }

def heap : Heap := #[]
def classes : Array Class := #[k0, k1, k2, k3, k4, k5, k6, k7, k8, k9, k10]
def interned : List (Array UInt16 × Addr) := []
def slotsUsed : Nat := 0
def theMethod : MethodId := ⟨1, 1⟩
def args0 : Array Value := #[.int 48, .long 5, .long 9, .int 3, .int 4]
def aboutOver (below : List Frame) : State where
  vm := { classes := classes, interned := interned.toArray }
  heap := heap
  slotsUsed := slotsUsed
  threads := #[{ frames := .invoking theMethod args0 :: below }]
def below0 : List Frame := [.native { method := ⟨0, 0⟩, args := #[] }]
def about1 : State := aboutOver below0
def p0 : Program := .bare "" "" ""
def e0 : Env := launch0.env 0 0 0
theorem w_frames : about1.frames = Frame.invoking theMethod args0 :: below0 := rfl
set_option maxRecDepth 65536 in
theorem w_args : argsFit about1.vm theMethod args0 = true := by decide +kernel
set_option maxRecDepth 65536 in
theorem w_heap : heapFits about1 = true := by decide +kernel
set_option maxRecDepth 65536 in
theorem w_runnable : about1.curStatus? = some .runnable := by decide +kernel
set_option maxRecDepth 65536 in
theorem w_alone : about1.alone = true := by decide +kernel
set_option maxRecDepth 65536 in
theorem w_named : about1.methodNamed? x = some theMethod := by decide +kernel
set_option maxRecDepth 65536 in
theorem w_hears : about1.hears theMethod below0 = true := by decide +kernel
set_option maxRecDepth 65536 in
theorem w_ripe : about1.ripe theMethod args0 below0 = true := by decide +kernel
theorem w_running : about1.status = .running := rfl
set_option maxRecDepth 65536 in
theorem w_room : about1.hasRoom e0.platform room_1 = true :=
  launch0.hasRoom_least _ room_1 (by decide +kernel) (by decide +kernel) (by decide +kernel) (by decide +kernel) (by decide +kernel) (by decide +kernel)
theorem allAtoms_all (ts : List Jvm.Cond) (a : Array Jvm.Value) (st : Jvm.State) : (allAtoms ts).before a st = ts.all (fun c => c.before a st) := by
  induction ts with
  | nil => rfl
  | cons c t ih =>
    show (Jvm.Cond.and c (allAtoms t)).before a st = _
    rw [Jvm.Cond.before_and, ih, List.all_cons]
def words1 : List Jvm.Cond := Jvm.Cond.code x code maxLocals ret :: tables_1
/-- a 'code' word, met by the world's own term for the bytes: nothing is compared byte by byte -/
theorem code_word {y : MethodName} {bytes : ByteArray} {mx : Nat} {rt : Option FieldType} {a : Array Value} {s : State} {m : MethodId} {meth : Method} {c : Code} (h1 : s.methodNamed? y = some m) (h2 : s.vm.method? m = some meth) (h3 : meth.code = some c) (h4 : c.code = bytes)
    (h5 : (c.maxLocals == mx && c.exceptionTable.isEmpty && decide (c.maxStack ≤ mostOperands) && decide (meth.sig.returnType = rt) && !meth.locks && decide (parseMethodDescriptor y.desc = some meth.sig)) = true) : (Jvm.Cond.code y bytes mx rt).before a s = true := by
  simp only [Bool.and_eq_true, beq_iff_eq, Bool.not_eq_true', decide_eq_true_eq] at h5
  obtain ⟨⟨⟨⟨⟨g1, g2⟩, g3⟩, g4⟩, g5⟩, g6⟩ := h5
  simp [Cond.before, Cond.holds, Cond.value, h1, h2, h3, h4, g1, g2, g3, g4, g5, g6]
def isCode : Jvm.Cond → Bool
  | .code _ _ _ _ => true
  | _ => false
theorem all_split {L : List Jvm.Cond} {P : Jvm.Cond → Bool} (h1 : L.all (fun c => isCode c || P c) = true) (h2 : ∀ c ∈ L.filter isCode, P c = true) : L.all P = true := by
  refine List.all_eq_true.mpr fun c hc => ?_
  have h := List.all_eq_true.mp h1 c hc
  rcases Bool.eq_false_or_eq_true (isCode c) with hi | hi
  · exact h2 c (List.mem_filter.mpr ⟨hc, hi⟩)
  · simpa [hi] using h
set_option maxRecDepth 65536 in
theorem w_c0 : (Jvm.Cond.code x code maxLocals ret).before args0 about1 = true := code_word (m := ⟨1, 1⟩) (meth := k1m1) (c := k1c1) (by decide +kernel) rfl rfl rfl (by decide +kernel)
set_option maxRecDepth 65536 in
theorem w_c1 : (Jvm.Cond.code ({ cls := "com/example/gridclear/gridclear/cms/Ber$Header", name := "<init>", desc := "(IJ[BJ)V" } : Jvm.MethodName) prog_17_method_1_code (7 : Nat) (Option.none : Option Jvm.ClassFile.FieldType)).before args0 about1 = true := code_word (m := ⟨3, 0⟩) (meth := k3m0) (c := k3c0) (by decide +kernel) rfl rfl rfl (by decide +kernel)
set_option maxRecDepth 65536 in
theorem w_c2 : (Jvm.Cond.code ({ cls := "java/lang/Record", name := "<init>", desc := "()V" } : Jvm.MethodName) jdk_30_method_1_code (1 : Nat) (Option.none : Option Jvm.ClassFile.FieldType)).before args0 about1 = true := code_word (m := ⟨2, 0⟩) (meth := k2m0) (c := k2c0) (by decide +kernel) rfl rfl rfl (by decide +kernel)
set_option maxRecDepth 65536 in
theorem w_c3 : (Jvm.Cond.code ({ cls := "java/lang/Object", name := "<init>", desc := "()V" } : Jvm.MethodName) object_method_1_code (1 : Nat) (Option.none : Option Jvm.ClassFile.FieldType)).before args0 about1 = true := code_word (m := ⟨0, 0⟩) (meth := k0m0) (c := k0c0) (by decide +kernel) rfl rfl rfl (by decide +kernel)
set_option maxRecDepth 65536 in
theorem w_c4 : (Jvm.Cond.code ({ cls := "com/example/gridclear/gridclear/cms/Ber$Header", name := "constructed", desc := "()Z" } : Jvm.MethodName) prog_17_method_2_code (1 : Nat) (Option.some Jvm.ClassFile.FieldType.boolean)).before args0 about1 = true := code_word (m := ⟨3, 1⟩) (meth := k3m1) (c := k3c1) (by decide +kernel) rfl rfl rfl (by decide +kernel)
set_option maxRecDepth 65536 in
theorem w_c5 : (Jvm.Cond.code ({ cls := "com/example/gridclear/gridclear/cms/Der", name := "context", desc := "(I)I" } : Jvm.MethodName) prog_20_method_2_code (1 : Nat) (Option.some Jvm.ClassFile.FieldType.int)).before args0 about1 = true := code_word (m := ⟨4, 1⟩) (meth := k4m1) (c := k4c1) (by decide +kernel) rfl rfl rfl (by decide +kernel)
set_option maxRecDepth 65536 in
theorem w_c6 : (Jvm.Cond.code ({ cls := "com/example/gridclear/gridclear/cms/Der", name := "contextPrimitive", desc := "(I)I" } : Jvm.MethodName) prog_20_method_3_code (1 : Nat) (Option.some Jvm.ClassFile.FieldType.int)).before args0 about1 = true := code_word (m := ⟨4, 2⟩) (meth := k4m2) (c := k4c2) (by decide +kernel) rfl rfl rfl (by decide +kernel)
def codes1 : List Jvm.Cond := [Jvm.Cond.code x code maxLocals ret, Jvm.Cond.code ({ cls := "com/example/gridclear/gridclear/cms/Ber$Header", name := "<init>", desc := "(IJ[BJ)V" } : Jvm.MethodName) prog_17_method_1_code (7 : Nat) (Option.none : Option Jvm.ClassFile.FieldType), Jvm.Cond.code ({ cls := "java/lang/Record", name := "<init>", desc := "()V" } : Jvm.MethodName) jdk_30_method_1_code (1 : Nat) (Option.none : Option Jvm.ClassFile.FieldType), Jvm.Cond.code ({ cls := "java/lang/Object", name := "<init>", desc := "()V" } : Jvm.MethodName) object_method_1_code (1 : Nat) (Option.none : Option Jvm.ClassFile.FieldType), Jvm.Cond.code ({ cls := "com/example/gridclear/gridclear/cms/Ber$Header", name := "constructed", desc := "()Z" } : Jvm.MethodName) prog_17_method_2_code (1 : Nat) (Option.some Jvm.ClassFile.FieldType.boolean), Jvm.Cond.code ({ cls := "com/example/gridclear/gridclear/cms/Der", name := "context", desc := "(I)I" } : Jvm.MethodName) prog_20_method_2_code (1 : Nat) (Option.some Jvm.ClassFile.FieldType.int), Jvm.Cond.code ({ cls := "com/example/gridclear/gridclear/cms/Der", name := "contextPrimitive", desc := "(I)I" } : Jvm.MethodName) prog_20_method_3_code (1 : Nat) (Option.some Jvm.ClassFile.FieldType.int)]
set_option maxRecDepth 65536 in
theorem codes_eq : words1.filter isCode = codes1 := rfl
theorem w_codes : ∀ c ∈ words1.filter isCode, c.before args0 about1 = true := by
  rw [codes_eq]
  intro c hc
  simp only [codes1, List.mem_cons, List.not_mem_nil, or_false] at hc
  rcases hc with rfl | rfl | rfl | rfl | rfl | rfl | rfl
  · exact w_c0
  · exact w_c1
  · exact w_c2
  · exact w_c3
  · exact w_c4
  · exact w_c5
  · exact w_c6
set_option maxRecDepth 65536 in
theorem w_t1 : (words1.take 24).all (fun c => isCode c || c.before args0 about1) = true := by decide +kernel
set_option maxRecDepth 65536 in
theorem w_t2 : (words1.drop 24).all (fun c => isCode c || c.before args0 about1) = true := by decide +kernel
theorem w_tables : (allAtoms (Jvm.Cond.code x code maxLocals ret :: tables_1)).before args0 about1 = true := by
  rw [allAtoms_all]
  show words1.all (fun c => c.before args0 about1) = true
  refine all_split ?_ w_codes
  rw [← List.take_append_drop 24 words1, List.all_append, w_t1, w_t2]
  rfl
set_option maxRecDepth 65536 in
theorem w_case : (Jvm.Cond.and given_1 narrow_1).before args0 about1 = true := by decide +kernel
theorem w_applies : (headSpec (Jvm.Cond.code x code maxLocals ret :: tables_1) room_1).applies x e0.platform about1 = true :=
  (Spec.applies_iff w_frames).mpr ⟨w_running, w_runnable, w_alone, w_named, w_hears, w_ripe, w_room, w_tables⟩
theorem atStart : AtStart classFile x code maxLocals ret World_1 tables_1 room_1 Calls_1 rest_1 Pre_1 launch0 p0 e0 about1 theMethod args0 below0 :=
  ⟨lists_1, trivial, launch0.admits_env _ _ _, launch0.least_env, fairChoices_fair.cas, fairChoices_fair.clock, w_frames, w_args, w_heap, w_applies, trivial, trivial, w_case⟩
end start1
theorem witness_1 : WitnessClaimed_1 := ⟨start1.p0, start1.e0, start1.about1, start1.theMethod, start1.args0, start1.below0, start1.atStart⟩
end Jvm.Pilot.@@N@@
